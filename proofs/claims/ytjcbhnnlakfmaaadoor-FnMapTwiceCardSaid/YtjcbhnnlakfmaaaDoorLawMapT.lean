/- The law FnMapTwice: to map twice is to map once by the joined table. Written by gen_lawmaptwice.py. -/
import Derived.Test.YtjcbhnnlakfmaaaDoorLawMapL
import Derived.Lib.SlFresh
namespace Go.Ftx
open Go.Lib
/-- a rule behind which the next table maps -/
def thenT (N : List (Int × Int)) (x : Int × Int) : Int × Int := (x.1, if 0 ≤ x.2 then imgT N true 0 x.2 else x.2)
theorem img_both (N : List (Int × Int)) (r : Int) (hr : 0 ≤ r) : ∀ T : List (Int × Int), imgT (T.map (thenT N) ++ N) true 0 r = if 0 ≤ imgT T true 0 r then imgT N true 0 (imgT T true 0 r) else imgT T true 0 r
  | [] => by simp [imgT, hr]
  | x :: T => by
    have ih := img_both N r hr T
    show (if x.1 = r then (if 0 ≤ x.2 then imgT N true 0 x.2 else x.2) else imgT (T.map (thenT N) ++ N) true 0 r) = _
    have e : imgT (x :: T) true 0 r = if x.1 = r then x.2 else imgT T true 0 r := rfl
    rw [e]
    by_cases hx : x.1 = r
    · rw [if_pos hx, if_pos hx]
    · rw [if_neg hx, if_neg hx, ih]
theorem mapR_two (f g h : Int → Int) : ∀ rs : List Nat, (∀ r ∈ rs, h (r : Int) = if 0 ≤ f (r : Int) then g (f (r : Int)) else f (r : Int)) → mapR g ((mapR f rs).map Int.toNat) = mapR h rs
  | [], _ => rfl
  | r :: rs, H => by
    have ih := mapR_two f g h rs (fun x hx => H x (by simp [hx]))
    have hr := H r (by simp)
    unfold mapR at ih ⊢
    rw [List.map_cons, List.map_cons, hr]
    by_cases h0 : 0 ≤ f (r : Int)
    · rw [List.filter_cons_of_pos (by simpa using h0), List.map_cons, List.map_cons, if_pos h0, show ((Int.toNat (f (r : Int)) : Nat) : Int) = f (r : Int) by omega]
      by_cases h1 : 0 ≤ g (f (r : Int))
      · rw [List.filter_cons_of_pos (by simpa using h1), List.filter_cons_of_pos (by simpa using h1), ih]
      · rw [List.filter_cons_of_neg (by simpa using h1), List.filter_cons_of_neg (by simpa using h1), ih]
    · rw [List.filter_cons_of_neg (by simpa using h0), if_neg h0, List.filter_cons_of_neg (by simpa using h0), ih]
theorem map_twice {T N : List (Int × Int)} (hp : properT T true 0 = true) (l : List UInt8) : mapD (imgT N true 0) (mapD (imgT T true 0) l) = mapD (imgT (T.map (thenT N) ++ N) true 0) l := by
  rw [mapD_chars (imgT N true 0), chars_mapped hp, mapR_two _ _ (imgT (T.map (thenT N) ++ N) true 0) _ (fun r _ => img_both N r (by omega) T), ← mapD_chars]
theorem okT_both {T N : List (Int × Int)} (hT : okT T) (hN : okT N) : okT (T.map (thenT N) ++ N) := by
  intro x hx
  rcases List.mem_append.1 hx with hx | hx
  · obtain ⟨y, hy, rfl⟩ := List.mem_map.1 hx
    have h := hT y hy
    refine ⟨h.1, ?_⟩
    show -2147483648 ≤ (if 0 ≤ y.2 then imgT N true 0 y.2 else y.2) ∧ (if 0 ≤ y.2 then imgT N true 0 y.2 else y.2) ≤ 2147483647
    split
    · exact imgT_range N true 0 y.2 hN (by omega) (by omega) h.2.1 h.2.2
    · exact h.2
  · exact hN x hx
theorem take_snocT (l : List (Int × Int)) (k : Nat) (h : k < l.length) : l.take (k + 1) = l.take k ++ [l.getD k (0, 0)] := by
  rw [List.take_add_one, List.getElem?_eq_getElem h]
  simp [List.getD, h]
theorem map_snocT (T : List (Int × Int)) (g : Int × Int → Int × Int) (k : Nat) (h : k < T.length) : (T.take (k + 1)).map g = (T.take k).map g ++ [g (T.getD k (0, 0))] := by
  rw [take_snocT T k h, List.map_append]
  rfl
end Go.Ftx
namespace Go.Proofs.YtjcbhnnlakfmaaaDoor
open Go.RowKit Go.Lib Go.Ftx
theorem rules_news {w : World} {ad : Addr} {n c : Nat} {N : List (Int × Int)} (h : RulesL w (.slice (some ad) n c) N) : ∀ j u, (ruleCells N)[j]? = some u → w.cell? (ad.add j) = some u := by
  intro j u hj
  have hl := ruleCells_length N
  have hjl : j < (ruleCells N).length := (List.getElem?_eq_some_iff.1 hj).1
  rcases h with ⟨a, cap, hv, rfl⟩ | ⟨b, off, cap, hv, _, _, hc⟩
  · simp [ruleCells] at hjl
  · cases hv
    rw [Addr.add_lit]
    rcases Nat.mod_two_eq_zero_or_one j with e | e
    · have h1 := hc (j / 2) (by omega)
      have h2 := ruleCells_get N (j / 2) (by omega)
      rw [show j / 2 * 2 = j by omega] at h1 h2
      rw [h1.1, ← hj, h2.1]
    · have h1 := hc (j / 2) (by omega)
      have h2 := ruleCells_get N (j / 2) (by omega)
      rw [show off + j / 2 * 2 + 1 = off + j by omega] at h1
      rw [show j / 2 * 2 + 1 = j by omega] at h2
      rw [h1.2, ← hj, h2.2]
theorem rules_none {w : World} {n c : Nat} {N : List (Int × Int)} (h : RulesL w (.slice none n c) N) : N = [] := by
  rcases h with ⟨a, cap, hv, rfl⟩ | ⟨b, off, cap, hv, _⟩
  · rfl
  · cases hv
theorem rule_one (N : List (Int × Int)) : ∀ u ∈ ruleCells N, u.oneCell' = true := by
  intro u hu
  unfold ruleCells at hu
  obtain ⟨x, _, hx⟩ := List.mem_flatMap.1 hu
  simp at hx
  rcases hx with rfl | rfl <;> rfl
theorem rules_both {w : World} {base : Nat} {e : TypeId} {gb cp : Nat} {T N : List (Int × Int)} (_ : T.length ≤ cp) (h : w.ownsRow base e 2 (.slice (some ⟨gb, 0, none⟩) T.length cp) T.length (ruleCells (T.map (thenT [])))) (hN : N = [] := by rfl) : RulesL w (.slice (some ⟨gb, 0, none⟩) T.length cp) (T.map (thenT N) ++ N) := by
  subst hN
  rw [List.append_nil]
  refine rules_of_own (base := base) (e := e) ?_
  rw [List.length_map]
  exact h
theorem append_no (W : World) (i0 : TypeInfo) (hi : Tryd.prog.info? 30 = some i0) (ty : TypeId) (b0 : Addr) (n cap c : Nat) (h : n ≤ cap) :
    (Builtin.append_ #[23, 23] ty #[.slice (some b0) n cap, .slice none 0 c]).run Tryd.prog W = .ok (.slice (some b0) n cap) W := by
  simp [Builtin.append_, run_underlying Tryd.underlying23, sizeOf, typeInfo, hi, Builtin.lenOf, Builtin.firstCells, loadCells, storeCells, h]

set_option maxHeartbeats 2000000 in
theorem mapTwice_walk (w : World) (l : List UInt8) (bv : Value) (hb : BytesL w bv l) (m : List UInt8) (cv : Value) (hc : BytesL w cv m) (hT : Utf8T w) :
    Calls Tryd.prog 3 #[bv, cv] w (TruePost w) := by
  have hv := hb.code
  have hu := hc.code
  clear hb hc
  rcases hv.split with ⟨a, len, cap, rfl, hl, hl2⟩ | ⟨⟨a, len, cap, rfl, hl⟩, hC⟩
  · clear hv hT
    have hl' : (1048576 : Int) < (len : Int) := by omega
    go_enter Tryd.func3, Tryd.ntmps3
    go_wp2
    go_ret
    exact ⟨rfl, grefl w none⟩
  · have hl' : ¬ (1048576 : Int) < (len : Int) := by omega
    rcases hu.split with ⟨a2, len2, cap2, rfl, hm, hm2⟩ | ⟨⟨a2, len2, cap2, rfl, hm⟩, hD⟩
    · clear hv hu hT hC
      have hm' : (1048576 : Int) < (len2 : Int) := by omega
      go_enter Tryd.func3, Tryd.ntmps3
      go_wp2
      go_ret
      exact ⟨rfl, grefl w none⟩
    · have hm' : ¬ (1048576 : Int) < (len2 : Int) := by omega
      have HC := Lib.hid hC
      have HD := Lib.hid hD
      have HT := Lib.hid hT
      clear hv hu hC hD hT
      go_enter Tryd.func3, Tryd.ntmps3
      go_wp2_with fail
      refine (drawMap_any _ _ HC.out).mono ?_
      rintro e w1 ⟨tv, T, keep, rest, s, hT5, hok, -, -, hs, rfl, hRL, hg1⟩
      have HR := Lib.hid hRL
      have HOK := Lib.hid hok
      clear hRL hok
      have G1 := Lib.hid hg1
      clear hg1
      clear HC
      go_wp2_with fail
      refine (drawMap_any _ _ (CodeAt.kept HD.out G1.out)).mono ?_
      rintro e w2 ⟨nv, N, keep2, rest2, t, hN5, hok2, -, -, ht, rfl, hRN, hg2⟩
      replace HR := Lib.hid (HR.out.kept hg2)
      have HN := Lib.hid hRN
      have HOKN := Lib.hid hok2
      clear hRN hok2
      have G2 := Lib.hid (gtrans G1.out hg2)
      clear hg2 G1
      clear HD
      cases hvs : Lib.validD s.data.toList with
      | false =>
        go_wp2_with fail
        refine (valid_isM s _ false (by omega) (HT.out.grown G2.out) hvs).mono ?_
        rintro e w3 ⟨rfl, hg3⟩
        replace HR := Lib.hid (HR.out.kept hg3)
        replace HN := Lib.hid (HN.out.kept hg3)
        have G3 := Lib.hid (gtrans G2.out hg3)
        clear hg3 G2
        go_wp2_with fail
        refine (mapped_is _ [] true 0 _ (⟨#[115, 111, 109, 101]⟩ : ByteArray) _ (RulesL.nil _) (by decide) okT_nil (by decide) (by decide) (HT.out.grown G3.out) (by decide +kernel)).mono ?_
        rintro e w4 ⟨rfl, hg4⟩
        have G4 := Lib.hid (gtrans G3.out hg4)
        clear hg4 G3
        go_wp2_with fail
        go_ret
        exact ⟨rfl, G4.out⟩
      | true =>
        go_wp2_with fail
        refine (valid_isM s _ true (by omega) (HT.out.grown G2.out) hvs).mono ?_
        rintro e w3 ⟨rfl, hg3⟩
        replace HR := Lib.hid (HR.out.kept hg3)
        replace HN := Lib.hid (HN.out.kept hg3)
        have G3 := Lib.hid (gtrans G2.out hg3)
        clear hg3 G2
        cases hp : properT T true 0 with
        | false =>
          go_wp2_with fail
          refine (proper_is _ T true 0 _ false HR.out hp).mono ?_
          rintro e w4 ⟨rfl, hg4⟩
          replace HR := Lib.hid (HR.out.kept hg4)
          replace HN := Lib.hid (HN.out.kept hg4)
          have G4 := Lib.hid (gtrans G3.out hg4)
          clear hg4 G3
          go_wp2_with fail
          refine (mapped_is _ [] true 0 _ (⟨#[115, 111, 109, 101]⟩ : ByteArray) _ (RulesL.nil _) (by decide) okT_nil (by decide) (by decide) (HT.out.grown G4.out) (by decide +kernel)).mono ?_
          rintro e w5 ⟨rfl, hg5⟩
          have G5 := Lib.hid (gtrans G4.out hg5)
          clear hg5 G4
          go_wp2_with fail
          go_ret
          exact ⟨rfl, G5.out⟩
        | true =>
          go_wp2_with fail
          refine (proper_is _ T true 0 _ true HR.out hp).mono ?_
          rintro e w4 ⟨rfl, hg4⟩
          replace HR := Lib.hid (HR.out.kept hg4)
          replace HN := Lib.hid (HN.out.kept hg4)
          have G4 := Lib.hid (gtrans G3.out hg4)
          clear hg4 G3
          cases hpn : properT N true 0 with
          | false =>
            go_wp2_with fail
            refine (proper_is _ N true 0 _ false HN.out hpn).mono ?_
            rintro e w5 ⟨rfl, hg5⟩
            replace HR := Lib.hid (HR.out.kept hg5)
            replace HN := Lib.hid (HN.out.kept hg5)
            have G5 := Lib.hid (gtrans G4.out hg5)
            clear hg5 G4
            go_wp2_with fail
            refine (mapped_is _ [] true 0 _ (⟨#[115, 111, 109, 101]⟩ : ByteArray) _ (RulesL.nil _) (by decide) okT_nil (by decide) (by decide) (HT.out.grown G5.out) (by decide +kernel)).mono ?_
            rintro e w6 ⟨rfl, hg6⟩
            have G6 := Lib.hid (gtrans G5.out hg6)
            clear hg6 G5
            go_wp2_with fail
            go_ret
            exact ⟨rfl, G6.out⟩
          | true =>
            go_wp2_with fail
            refine (proper_is _ N true 0 _ true HN.out hpn).mono ?_
            rintro e w5 ⟨rfl, hg5⟩
            replace HR := Lib.hid (HR.out.kept hg5)
            replace HN := Lib.hid (HN.out.kept hg5)
            have G5 := Lib.hid (gtrans G4.out hg5)
            clear hg5 G4
            obtain ⟨o, ho⟩ := ex_outM (mapD (imgT T true 0) s.data.toList)
            obtain ⟨u, hu⟩ := ex_outM (mapD (imgT N true 0) o.data.toList)
            have hb2 := map_twice (N := N) hp s.data.toList
            rw [ho, hu] at hb2
            have zo := out_sizeM _ ho
            have HO1 := Lib.hid ho
            have HO2 := Lib.hid hu
            have HO3 := Lib.hid hb2
            have HOKB := Lib.hid (okT_both HOK.out HOKN.out)
            clear ho hu hb2 hp hpn hvs
            obtain ⟨ta, tc, rfl, -, hcells⟩ := HR.out.form
            have HCE := Lib.hid hcells
            obtain ⟨na, nc, rfl, -, -⟩ := HN.out.form
            clear hcells
            obtain ⟨i0, hi, hz0, hz1, hz2⟩ := info_parts info_specR
            have HRB := HR
            have HNB := HN
            clear HR HN
            go_wp2_with fail
            go_loopg [13, 14] T.length (fun g s13 s14 wx => ∃ k : Nat, k + g = T.length ∧ s14 = .int .i64 k ∧ s13 ≠ .slice none 0 0 ∧ Hid (wx.ownsRow w5.heap.size 30 2 s13 k (ruleCells ((T.take k).map (thenT N)))) ∧ Hid (w5.grownBy wx none))
            case atStart => exact ⟨0, by omega, rfl, by simp, World.ownsRow_lit w5 #[] 0 (Nat.le_refl _) (by unfold maxLen; omega) rfl, World.grownBy_alloc w5 _ none⟩
            case round =>
              obtain ⟨k, hk, rfl, hnn, HO, HG⟩ := hrel
              obtain ⟨gb, cp, rfl, hgb, hcp⟩ := own_formN HO.out hnn
              by_cases hlt : k < T.length
              · have hzz : (k : Int) < (T.length : Int) := by omega
                obtain ⟨g', rfl⟩ : ∃ g', gk = g' + 1 := ⟨gk - 1, by omega⟩
                obtain ⟨b, off, rfl, hc1, hc2⟩ := HCE.out k hlt
                have hd1 := HG.out.cell hc1 (by simp)
                have hd2 := HG.out.cell hc2 (by simp)
                have HTK := Lib.hid (show ruleCells ((T.take (k + 1)).map (thenT N)) = ruleCells ((T.take k).map (thenT N)) ++ [.int .i32 (T.getD k (0, 0)).1, .int .i32 (if 0 ≤ (T.getD k (0, 0)).2 then imgT N true 0 (T.getD k (0, 0)).2 else (T.getD k (0, 0)).2)] by rw [map_snocT T _ k hlt, ruleCells_append]; rfl)
                generalize (T.getD k (0, 0)).1 = za at *
                generalize (T.getD k (0, 0)).2 = zb at *
                have CI := Lib.hid (fun W (hW : w5.grownBy W none) => image_any _ N true 0 zb W (HNB.out.kept hW))
                generalize imgT N true 0 zb = zi at *
                generalize ruleCells ((T.take k).map (thenT N)) = CS at *
                have hlb := World.block_lt_of_cell? w5 _ (hc1)
                have hsz := HG.out.size
                have ag : (Value.slice (some ⟨gb, 0, none⟩) k cp).ownBlock ≠ some b := by simp at hlb; simp [Value.ownBlock]; omega
                have hk0 : (0 : Int) ≤ (k : Int) := by omega
                have hlb' : b < wr.heap.size := by simp at hlb; omega
                have HOWN := HO.out
                clear hc1 hc2 hlb
                by_cases h0 : 0 ≤ zb
                · have hz0' : zb ≥ 0 := h0
                  go_wp2_with fail
                  refine (CI.out _ HG.out).mono ?_
                  rintro e w' ⟨rfl, rfl⟩
                  have hown1 := HOWN.alloc (.cells #[.int .i32 za, .int .i32 zi] 30)
                  go_wp2_with (at_builtin; refine wpList_append_own _ rfl _ _ 23 rfl w5.heap.size 30 i0 (.agg #[.int .i32 0, .int .i32 0]) 2 8 Tryd.underlying23 hi hz0 hz1 hz2 rfl (by decide) _ _ _ rfl hown1 ⟨wr.heap.size, 0, none⟩ 1 1 [.int .i32 za, .int .i32 zi] rfl rfl (cell_pair wr _ _ _) (by intro u hu; simp at hu; rcases hu with rfl | rfl <;> rfl) (by unfold maxLen; omega) (by omega) (by rw [asize]; omega) ?_)
                  intro v' w7 hown' hgrow hiff
                  have hnv : v' ≠ .slice none 0 0 := by first | exact hiff | simpa using hiff
                  have HTK' := HTK.out
                  rw [if_pos h0] at HTK'
                  rw [← HTK'] at hown'
                  have HO2' := Lib.hid hown'
                  have HG2 := Lib.hid (gjoin (galloc HG.out _) hgrow hgb)
                  clear hown' hgrow HOWN HO HG HTK HTK' hown1 hiff
                  go_wp2_with fail
                  go_roundg g'
                  case measure => omega
                  case rel => exact ⟨k + 1, by omega, by first | rfl | simp, hnv, HO2'.out, HG2.out⟩
                · have hz0' : ¬ (zb ≥ 0) := h0
                  have hown1 := HOWN.alloc (.cells #[.int .i32 za, .int .i32 zb] 30)
                  go_wp2_with (at_builtin; refine wpList_append_own _ rfl _ _ 23 rfl w5.heap.size 30 i0 (.agg #[.int .i32 0, .int .i32 0]) 2 8 Tryd.underlying23 hi hz0 hz1 hz2 rfl (by decide) _ _ _ rfl hown1 ⟨wr.heap.size, 0, none⟩ 1 1 [.int .i32 za, .int .i32 zb] rfl rfl (cell_pair wr _ _ _) (by intro u hu; simp at hu; rcases hu with rfl | rfl <;> rfl) (by unfold maxLen; omega) (by omega) (by rw [asize]; omega) ?_)
                  intro v' w7 hown' hgrow hiff
                  have hnv : v' ≠ .slice none 0 0 := by first | exact hiff | simpa using hiff
                  have HTK' := HTK.out
                  rw [if_neg (by omega)] at HTK'
                  rw [← HTK'] at hown'
                  have HO2' := Lib.hid hown'
                  have HG2 := Lib.hid (gjoin (galloc HG.out _) hgrow hgb)
                  clear hown' hgrow HOWN HO HG HTK HTK' hown1 hiff
                  go_wp2_with fail
                  go_roundg g'
                  case measure => omega
                  case rel => exact ⟨k + 1, by omega, by first | rfl | simp, hnv, HO2'.out, HG2.out⟩
              · have hzz : ¬ (k : Int) < (T.length : Int) := by omega
                obtain rfl : k = T.length := by omega
                rw [List.take_length] at HO
                have HLB := Lib.hid (show (T.map (thenT N) ++ N).length = T.length + N.length by simp)
                have HAP := Lib.hid (ruleCells_append (T.map (thenT N)) N)
                have hbl : (T.map (thenT N) ++ N).length ≤ 10 := by rw [HLB.out]; omega
                have HOWN := HO.out
                clear HO HCE
                cases na with
                | none =>
                  obtain rfl := rules_none HNB.out
                  have hrun := append_no wr i0 hi 23 ⟨gb, 0, none⟩ T.length cp nc hcp
                  go_wp2_with (at_builtin; refine Lib.wpList_append_run_sl _ rfl _ _ 23 rfl _ _ rfl rfl hrun ?_)
                  have HB := Lib.hid (rules_both (N := []) (by simpa using hcp) HOWN)
                  have GX := HG
                  clear HOWN HG hrun
                  have HR := Lib.hid (HRB.out.kept GX.out)
                  have HN := Lib.hid (HNB.out.kept GX.out)
                  have G6 := Lib.hid (gtrans G5.out GX.out)
                  clear GX G5 HRB HNB
                  go_wp2_with fail
                  refine (mapped_is _ T true 0 s o _ HR.out (by omega) HOK.out (by decide) (by omega) (HT.out.grown G6.out) HO1.out).mono ?_
                  rintro e w7 ⟨rfl, hg7⟩
                  replace HR := Lib.hid (HR.out.kept hg7)
                  replace HN := Lib.hid (HN.out.kept hg7)
                  replace HB := Lib.hid (HB.out.kept hg7)
                  have G7 := Lib.hid (gtrans G6.out hg7)
                  clear hg7 G6
                  go_wp2_with fail
                  refine (mapped_is _ [] true 0 o u _ HN.out (by first | omega | (simp)) HOKN.out (by decide) (by omega) (HT.out.grown G7.out) HO2.out).mono ?_
                  rintro e w8 ⟨rfl, hg8⟩
                  replace HR := Lib.hid (HR.out.kept hg8)
                  replace HN := Lib.hid (HN.out.kept hg8)
                  replace HB := Lib.hid (HB.out.kept hg8)
                  have G8 := Lib.hid (gtrans G7.out hg8)
                  clear hg8 G7
                  go_wp2_with fail
                  refine (mapped_is _ (T.map (thenT []) ++ []) true 0 s u _ HB.out (by simp; omega) HOKB.out (by decide) (by omega) (HT.out.grown G8.out) HO3.out.symm).mono ?_
                  rintro e w9 ⟨rfl, hg9⟩
                  replace HR := Lib.hid (HR.out.kept hg9)
                  replace HN := Lib.hid (HN.out.kept hg9)
                  replace HB := Lib.hid (HB.out.kept hg9)
                  have G9 := Lib.hid (gtrans G8.out hg9)
                  clear hg9 G8
                  go_wp2_with fail
                  refine (mapped_is _ [] true 0 _ (⟨#[115, 111, 109, 101]⟩ : ByteArray) _ (RulesL.nil _) (by decide) okT_nil (by decide) (by decide) (HT.out.grown G9.out) (by decide +kernel)).mono ?_
                  rintro e w10 ⟨rfl, hg10⟩
                  have G10 := Lib.hid (gtrans G9.out hg10)
                  clear hg10 G9
                  go_wp2_with fail
                  go_ret
                  exact ⟨rfl, G10.out⟩
                | some ad =>
                  have HNW := Lib.hid (rules_news (HNB.out.kept HG.out))
                  go_wp2_with (at_builtin; refine wpList_append_own _ rfl _ _ 23 rfl w5.heap.size 30 i0 (.agg #[.int .i32 0, .int .i32 0]) 2 8 Tryd.underlying23 hi hz0 hz1 hz2 rfl (by decide) _ _ _ rfl HOWN ad N.length nc (ruleCells N) rfl (ruleCells_length N) HNW.out (rule_one N) (by unfold maxLen; omega) (by omega) HG.out.size ?_)
                  intro v' w7 hown' hgrow hiff
                  rw [← HAP.out, ← HLB.out] at hown'
                  have HB := Lib.hid (rules_of_own hown')
                  have GX := Lib.hid (gjoin HG.out hgrow hgb)
                  clear hown' hgrow hiff HOWN HG HNW
                  obtain ⟨va, vc, rfl, -, -⟩ := HB.out.form
                  generalize hbn : (T.map (thenT N) ++ N).length = bn
                  rw [hbn] at HB hbl
                  have HBN := Lib.hid hbn
                  clear hbn HLB
                  have HR := Lib.hid (HRB.out.kept GX.out)
                  have HN := Lib.hid (HNB.out.kept GX.out)
                  have G6 := Lib.hid (gtrans G5.out GX.out)
                  clear GX G5 HRB HNB
                  go_wp2_with fail
                  refine (mapped_is _ T true 0 s o _ HR.out (by omega) HOK.out (by decide) (by omega) (HT.out.grown G6.out) HO1.out).mono ?_
                  rintro e w7 ⟨rfl, hg7⟩
                  replace HR := Lib.hid (HR.out.kept hg7)
                  replace HN := Lib.hid (HN.out.kept hg7)
                  replace HB := Lib.hid (HB.out.kept hg7)
                  have G7 := Lib.hid (gtrans G6.out hg7)
                  clear hg7 G6
                  go_wp2_with fail
                  refine (mapped_is _ N true 0 o u _ HN.out (by first | omega | (simp)) HOKN.out (by decide) (by omega) (HT.out.grown G7.out) HO2.out).mono ?_
                  rintro e w8 ⟨rfl, hg8⟩
                  replace HR := Lib.hid (HR.out.kept hg8)
                  replace HN := Lib.hid (HN.out.kept hg8)
                  replace HB := Lib.hid (HB.out.kept hg8)
                  have G8 := Lib.hid (gtrans G7.out hg8)
                  clear hg8 G7
                  go_wp2_with fail
                  refine (mapped_is _ (T.map (thenT N) ++ N) true 0 s u _ HB.out (by rw [HBN.out]; omega) HOKB.out (by decide) (by omega) (HT.out.grown G8.out) HO3.out.symm).mono ?_
                  rintro e w9 ⟨rfl, hg9⟩
                  replace HR := Lib.hid (HR.out.kept hg9)
                  replace HN := Lib.hid (HN.out.kept hg9)
                  replace HB := Lib.hid (HB.out.kept hg9)
                  have G9 := Lib.hid (gtrans G8.out hg9)
                  clear hg9 G8
                  go_wp2_with fail
                  refine (mapped_is _ [] true 0 _ (⟨#[115, 111, 109, 101]⟩ : ByteArray) _ (RulesL.nil _) (by decide) okT_nil (by decide) (by decide) (HT.out.grown G9.out) (by decide +kernel)).mono ?_
                  rintro e w10 ⟨rfl, hg10⟩
                  have G10 := Lib.hid (gtrans G9.out hg10)
                  clear hg10 G9
                  go_wp2_with fail
                  go_ret
                  exact ⟨rfl, G10.out⟩

end Go.Proofs.YtjcbhnnlakfmaaaDoor
