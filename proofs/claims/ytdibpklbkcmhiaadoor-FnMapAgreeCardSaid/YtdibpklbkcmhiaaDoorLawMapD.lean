/- Laws on Map of drawn tables and texts: for every input the call returns true, and nothing that was there changes. Written by gen_lawmapd.py. -/
import Derived.Test.YtdibpklbkcmhiaaDoorLawMap
import Derived.Test.YtdibpklbkcmhiaaDoorDrawMap
import Derived.Test.YtdibpklbkcmhiaaDoorValidP
namespace Go.Ftx
open Go.Lib
theorem data_appM (a b : ByteArray) : (a ++ b).data.toList = a.data.toList ++ b.data.toList := by
  rw [ByteArray.data_append, Array.toList_append]
theorem keep_id (l : List UInt8) (h : validD l = true) : mapD (imgT [] true 0) l = l := by
  rw [mapD_chars, mapR_all (fun r _ => by simp [imgT])]
  have e : ((chars l).map fun (r : Nat) => imgT [] true 0 (r : Int)) = (chars l).map fun (r : Nat) => (r : Int) := by simp [imgT]
  rw [e]
  exact text_chars _ l (Nat.le_refl _) h
theorem drop_all (l : List UInt8) : mapD (imgT [] false (-1)) l = [] := by
  rw [mapD_chars]
  have e : mapR (imgT [] false (-1)) (chars l) = [] := by
    unfold mapR
    rw [List.filter_eq_nil_iff]
    intro z hz
    obtain ⟨r, _, rfl⟩ := List.mem_map.1 hz
    simp [imgT]
  rw [e]
  rfl
theorem valid_app {a b : ByteArray} (ha : validD a.data.toList = true) (hb : validD b.data.toList = true) : validD (a ++ b).data.toList = true := by
  rw [data_appM, (chars_valid_appendP _ _ _ (Nat.le_refl _) ha).2]
  exact hb
theorem join_outM {f : Int → Int} {s t o u : ByteArray} (hs : validD s.data.toList = true) (ho : mapD f s.data.toList = o.data.toList) (hu : mapD f t.data.toList = u.data.toList) : mapD f (s ++ t).data.toList = (o ++ u).data.toList := by
  rw [data_appM, data_appM, mapD_chars, (chars_valid_appendP _ _ _ (Nat.le_refl _) hs).1, mapR_append, textOf_append, ← mapD_chars, ← mapD_chars, ho, hu]
theorem textOf_len5 : ∀ zs : List Int, (textOf zs).length ≤ 4 * zs.length
  | [] => by simp [textOf]
  | z :: zs => by
    have h := textOf_len5 zs
    have h1 := (encodeRune_length z).2
    show (encodeRune z ++ textOf zs).length ≤ _
    rw [List.length_append, List.length_cons]
    omega
theorem out_sizeM (f : Int → Int) {s o : ByteArray} (h : mapD f s.data.toList = o.data.toList) : o.size ≤ 4 * s.size := by
  have h1 := textOf_len5 (mapR f (chars s.data.toList))
  have h2 : (mapR f (chars s.data.toList)).length ≤ (chars s.data.toList).length := by
    unfold mapR
    exact Nat.le_trans (List.length_filter_le _ _) (by simp)
  have h3 := chars_length s.data.toList
  rw [← mapD_chars, h, ← Lib.size_eq] at h1
  rw [← Lib.size_eq] at h3
  omega
theorem size_appM {s t : ByteArray} {a b : Nat} (hs : s.size ≤ a) (ht : t.size ≤ b) : (s ++ t).size ≤ a + b := by rw [ByteArray.size_append]; omega
theorem str_notM {s : ByteArray} (h : s.data.toList ≠ []) : (s.toList == ([] : List UInt8)) = false := by
  rw [ByteArray.toList_eq]
  cases e : s.data.toList with
  | nil => exact absurd e h
  | cons a l => rfl
theorem validD_notM {l : List UInt8} (h : Lib.validD l = false) : l ≠ [] := by
  rintro rfl
  exact absurd h (by decide)
end Go.Ftx
namespace Go.Proofs.YtdibpklbkcmhiaaDoor
open Go.RowKit Go.Lib Go.Ftx
theorem mapped_is (v : Value) (T : List (Int × Int)) (keep : Bool) (rest : Int) (s o : ByteArray) (w : World) (hT : RulesL w v T) (hn : T.length ≤ 8000000) (hok : okT T) (hr : -2147483648 ≤ rest ∧ rest ≤ 2147483647) (hs : s.size < 35184372088832) (hU : Utf8T w) (ho : mapD (imgT T keep rest) s.data.toList = o.data.toList) :
    Calls Tryd.prog 19 #[v, .bool keep, .int .i32 rest, .string s] w (fun e w' => e = .returned (.string o) ∧ w.grownBy w' none) := by
  have h := mapped_any v T keep rest s w hT hn hok hr.1 hr.2 hs hU
  rw [ho] at h
  exact h
theorem okT_nil : okT [] := fun x hx => absurd hx (by simp)

set_option maxHeartbeats 2000000 in
theorem mapKeep_walk (w : World) (l : List UInt8) (bv : Value) (hb : BytesL w bv l) (hT : Utf8T w) :
    Calls Tryd.prog 6 #[bv] w (TruePost w) := by
  have hv := hb.code
  clear hb
  rcases hv.split with ⟨a, len, cap, rfl, hl, hl2⟩ | ⟨⟨a, len, cap, rfl, hl⟩, hC⟩
  · clear hv hT
    have hl' : (1048576 : Int) < (len : Int) := by omega
    go_enter Tryd.func6, Tryd.ntmps6
    go_wp2
    go_ret
    exact ⟨rfl, grefl w none⟩
  · have hl' : ¬ (1048576 : Int) < (len : Int) := by omega
    have HC := Lib.hid hC
    have HT := Lib.hid hT
    clear hv hC hT
    go_enter Tryd.func6, Tryd.ntmps6
    go_wp2_with fail
    refine (drawMap_any _ _ HC.out).mono ?_
    rintro e w1 ⟨tv, T, keep, rest, s, hT5, hok, hr0, hr1, hs, rfl, hRL, hg1⟩
    have G1 := Lib.hid hg1
    clear hg1
    clear HC hRL hok
    have hss : s.size + 4 ≤ 9223372036854775807 := by omega
    cases hv : Lib.validD s.data.toList with
    | false =>
      have hne : (s.toList == ([] : List UInt8)) = false := str_notM (validD_notM hv)
      go_wp2_with fail
      refine (valid_isM s _ false (by omega) (HT.out.grown G1.out) hv).mono ?_
      rintro e w2 ⟨rfl, hg2⟩
      have G2 := Lib.hid (gtrans G1.out hg2)
      clear hg2 G1
      go_wp2_with fail
      refine (mapped_is _ [] true 0 _ (⟨#[115, 111, 109, 101]⟩ : ByteArray) _ (RulesL.nil _) (by decide) okT_nil (by decide) (by decide) (HT.out.grown G2.out) (by decide +kernel)).mono ?_
      rintro e w3 ⟨rfl, hg3⟩
      have G3 := Lib.hid (gtrans G2.out hg3)
      clear hg3 G2
      go_wp2_with fail
      go_ret
      exact ⟨rfl, G3.out⟩
    | true =>
      go_wp2_with fail
      refine (valid_isM s _ true (by omega) (HT.out.grown G1.out) hv).mono ?_
      rintro e w2 ⟨rfl, hg2⟩
      have G2 := Lib.hid (gtrans G1.out hg2)
      clear hg2 G1
      have hva : Lib.validD (s ++ (⟨#[115, 111, 109, 101]⟩ : ByteArray)).data.toList = true := valid_app hv (by decide +kernel)
      have hk := keep_id _ hva
      have hza := size_appM hs (show (⟨#[115, 111, 109, 101]⟩ : ByteArray).size ≤ 4 by decide)
      have hd := drop_all s.data.toList
      go_wp2_with fail
      refine (mapped_is _ [] true 0 (s ++ (⟨#[115, 111, 109, 101]⟩ : ByteArray)) (s ++ (⟨#[115, 111, 109, 101]⟩ : ByteArray)) _ (RulesL.nil _) (by decide) okT_nil (by decide) (by omega) (HT.out.grown G2.out) hk).mono ?_
      rintro e w3 ⟨rfl, hg3⟩
      have G3 := Lib.hid (gtrans G2.out hg3)
      clear hg3 G2
      go_wp2_with fail
      refine (mapped_is _ [] false (-1) s (⟨#[]⟩ : ByteArray) _ (RulesL.nil _) (by decide) okT_nil (by decide) (by omega) (HT.out.grown G3.out) hd).mono ?_
      rintro e w4 ⟨rfl, hg4⟩
      have G4 := Lib.hid (gtrans G3.out hg4)
      clear hg4 G3
      go_wp2_with fail
      go_ret
      exact ⟨rfl, G4.out⟩

set_option maxHeartbeats 2000000 in
theorem mapJoin_walk (w : World) (l : List UInt8) (bv : Value) (hb : BytesL w bv l) (m : List UInt8) (cv : Value) (hc : BytesL w cv m) (hT : Utf8T w) :
    Calls Tryd.prog 8 #[bv, cv] w (TruePost w) := by
  have hv := hb.code
  have hu := hc.code
  clear hb hc
  rcases hv.split with ⟨a, len, cap, rfl, hl, hl2⟩ | ⟨⟨a, len, cap, rfl, hl⟩, hC⟩
  · clear hv hT
    have hl' : (1048576 : Int) < (len : Int) := by omega
    go_enter Tryd.func8, Tryd.ntmps8
    go_wp2
    go_ret
    exact ⟨rfl, grefl w none⟩
  · have hl' : ¬ (1048576 : Int) < (len : Int) := by omega
    rcases hu.split with ⟨a2, len2, cap2, rfl, hm, hm2⟩ | ⟨⟨a2, len2, cap2, rfl, hm⟩, hD⟩
    · clear hv hu hT hC
      have hm' : (1048576 : Int) < (len2 : Int) := by omega
      go_enter Tryd.func8, Tryd.ntmps8
      go_wp2
      go_ret
      exact ⟨rfl, grefl w none⟩
    · have hm' : ¬ (1048576 : Int) < (len2 : Int) := by omega
      have HC := Lib.hid hC
      have HD := Lib.hid hD
      have HT := Lib.hid hT
      clear hv hu hC hD hT
      go_enter Tryd.func8, Tryd.ntmps8
      go_wp2_with fail
      refine (drawMap_any _ _ HC.out).mono ?_
      rintro e w1 ⟨tv, T, keep, rest, s, hT5, hok, hr0, hr1, hs, rfl, hRL, hg1⟩
      have HR := Lib.hid hRL
      have HOK := Lib.hid hok
      clear hRL hok
      have G1 := Lib.hid hg1
      clear hg1
      clear HC
      go_wp2_with fail
      refine (drawMap_any _ _ (CodeAt.kept HD.out G1.out)).mono ?_
      rintro e w2 ⟨tv2, T2, keep2, rest2, t, hT52, -, -, -, ht, rfl, -, hg2⟩
      replace HR := Lib.hid (HR.out.kept hg2)
      have G2 := Lib.hid (gtrans G1.out hg2)
      clear hg2 G1
      clear HD
      have hst : s.size + t.size ≤ 9223372036854775807 := by omega
      have zst := size_appM hs ht
      cases hvs : Lib.validD s.data.toList with
      | false =>
        go_wp2_with fail
        refine (valid_isM s _ false (by omega) (HT.out.grown G2.out) hvs).mono ?_
        rintro e w3 ⟨rfl, hg3⟩
        replace HR := Lib.hid (HR.out.kept hg3)
        have G3 := Lib.hid (gtrans G2.out hg3)
        clear hg3 G2
        go_wp2_with fail
        refine (mapped_is _ [] true 0 _ (⟨#[115, 111, 109, 101]⟩ : ByteArray) _ (RulesL.nil _) (by decide) okT_nil (by decide) (by decide) (HT.out.grown G3.out) (by decide +kernel)).mono ?_
        rintro e w4 ⟨rfl, hg4⟩
        have G4 := Lib.hid (gtrans G3.out hg4)
        clear hg4 G3
        go_wp2_with fail
        go_ret
        exact ⟨rfl, G4.out⟩
      | true =>
        go_wp2_with fail
        refine (valid_isM s _ true (by omega) (HT.out.grown G2.out) hvs).mono ?_
        rintro e w3 ⟨rfl, hg3⟩
        replace HR := Lib.hid (HR.out.kept hg3)
        have G3 := Lib.hid (gtrans G2.out hg3)
        clear hg3 G2
        cases hvt : Lib.validD t.data.toList with
        | false =>
          go_wp2_with fail
          refine (valid_isM t _ false (by omega) (HT.out.grown G3.out) hvt).mono ?_
          rintro e w4 ⟨rfl, hg4⟩
          replace HR := Lib.hid (HR.out.kept hg4)
          have G4 := Lib.hid (gtrans G3.out hg4)
          clear hg4 G3
          go_wp2_with fail
          refine (mapped_is _ [] true 0 _ (⟨#[115, 111, 109, 101]⟩ : ByteArray) _ (RulesL.nil _) (by decide) okT_nil (by decide) (by decide) (HT.out.grown G4.out) (by decide +kernel)).mono ?_
          rintro e w5 ⟨rfl, hg5⟩
          have G5 := Lib.hid (gtrans G4.out hg5)
          clear hg5 G4
          go_wp2_with fail
          go_ret
          exact ⟨rfl, G5.out⟩
        | true =>
          go_wp2_with fail
          refine (valid_isM t _ true (by omega) (HT.out.grown G3.out) hvt).mono ?_
          rintro e w4 ⟨rfl, hg4⟩
          replace HR := Lib.hid (HR.out.kept hg4)
          have G4 := Lib.hid (gtrans G3.out hg4)
          clear hg4 G3
          cases hp : properT T keep rest with
          | false =>
            go_wp2_with fail
            refine (proper_is _ T keep rest _ false HR.out hp).mono ?_
            rintro e w5 ⟨rfl, hg5⟩
            replace HR := Lib.hid (HR.out.kept hg5)
            have G5 := Lib.hid (gtrans G4.out hg5)
            clear hg5 G4
            go_wp2_with fail
            refine (mapped_is _ [] true 0 _ (⟨#[115, 111, 109, 101]⟩ : ByteArray) _ (RulesL.nil _) (by decide) okT_nil (by decide) (by decide) (HT.out.grown G5.out) (by decide +kernel)).mono ?_
            rintro e w6 ⟨rfl, hg6⟩
            have G6 := Lib.hid (gtrans G5.out hg6)
            clear hg6 G5
            go_wp2_with fail
            go_ret
            exact ⟨rfl, G6.out⟩
          | true =>
            go_wp2_with fail
            refine (proper_is _ T keep rest _ true HR.out hp).mono ?_
            rintro e w5 ⟨rfl, hg5⟩
            replace HR := Lib.hid (HR.out.kept hg5)
            have G5 := Lib.hid (gtrans G4.out hg5)
            clear hg5 G4
            obtain ⟨o, ho⟩ := ex_outM (mapD (imgT T keep rest) s.data.toList)
            obtain ⟨u, hu⟩ := ex_outM (mapD (imgT T keep rest) t.data.toList)
            have zo := out_sizeM _ ho
            have zu := out_sizeM _ hu
            have hj := join_outM hvs ho hu
            have hzz : o.size + u.size ≤ 9223372036854775807 := by omega
            go_wp2_with fail
            refine (mapped_is _ T keep rest (s ++ t) (o ++ u) _ HR.out (by omega) HOK.out ⟨hr0, hr1⟩ (by omega) (HT.out.grown G5.out) hj).mono ?_
            rintro e w6 ⟨rfl, hg6⟩
            replace HR := Lib.hid (HR.out.kept hg6)
            have G6 := Lib.hid (gtrans G5.out hg6)
            clear hg6 G5
            go_wp2_with fail
            refine (mapped_is _ T keep rest s o _ HR.out (by omega) HOK.out ⟨hr0, hr1⟩ (by omega) (HT.out.grown G6.out) ho).mono ?_
            rintro e w7 ⟨rfl, hg7⟩
            replace HR := Lib.hid (HR.out.kept hg7)
            have G7 := Lib.hid (gtrans G6.out hg7)
            clear hg7 G6
            go_wp2_with fail
            refine (mapped_is _ T keep rest t u _ HR.out (by omega) HOK.out ⟨hr0, hr1⟩ (by omega) (HT.out.grown G7.out) hu).mono ?_
            rintro e w8 ⟨rfl, hg8⟩
            replace HR := Lib.hid (HR.out.kept hg8)
            have G8 := Lib.hid (gtrans G7.out hg8)
            clear hg8 G7
            go_wp2_with fail
            refine (mapped_is _ [] true 0 _ (⟨#[115, 111, 109, 101]⟩ : ByteArray) _ (RulesL.nil _) (by decide) okT_nil (by decide) (by decide) (HT.out.grown G8.out) (by decide +kernel)).mono ?_
            rintro e w9 ⟨rfl, hg9⟩
            have G9 := Lib.hid (gtrans G8.out hg9)
            clear hg9 G8
            go_wp2_with fail
            go_ret
            exact ⟨rfl, G9.out⟩

end Go.Proofs.YtdibpklbkcmhiaaDoor
