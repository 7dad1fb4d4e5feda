/- The law FnMapLen: a mapped string has a character for each one that is not dropped. Written by gen_lawmaplen.py. -/
import Derived.Test.YtdibpklbkcmhiaaDoorLawMapD
namespace Go.Ftx
open Go.Lib
theorem mapR_chars {T : List (Int × Int)} {keep : Bool} {rest : Int} (hp : properT T keep rest = true) (l : List UInt8) : ∀ z ∈ mapR (imgT T keep rest) (chars l), isChar z := by
  intro z hz
  unfold mapR at hz
  rw [List.mem_filter] at hz
  obtain ⟨hz, h0⟩ := hz
  obtain ⟨r, hr, rfl⟩ := List.mem_map.1 hz
  exact proper_img T keep rest r hp (chars_char l r hr) (of_decide_eq_true h0)
theorem chars_mapped {T : List (Int × Int)} {keep : Bool} {rest : Int} (hp : properT T keep rest = true) (l : List UInt8) : chars (mapD (imgT T keep rest) l) = (mapR (imgT T keep rest) (chars l)).map Int.toNat := by
  rw [mapD_chars, chars_textOf _ (mapR_chars hp l)]
theorem mapR_take (f : Int → Int) (rs : List Nat) (k : Nat) (h : k < rs.length) : (mapR f (rs.take (k + 1))).length = (mapR f (rs.take k)).length + if 0 ≤ f ((rs.getD k 0 : Nat) : Int) then 1 else 0 := by
  rw [List.take_add_one, List.getElem?_eq_getElem h, show rs.getD k 0 = rs[k] by simp [List.getD, h], mapR_append, List.length_append]
  congr 1
  unfold mapR
  simp only [Option.toList_some, List.map_cons, List.map_nil]
  split
  · rename_i h0
    rw [List.filter_cons_of_pos (by simpa using h0)]
    rfl
  · rename_i h0
    rw [List.filter_cons_of_neg (by simpa using h0)]
    rfl
theorem mapR_le (f : Int → Int) (rs : List Nat) : (mapR f rs).length ≤ rs.length := by
  unfold mapR
  exact Nat.le_trans (List.length_filter_le _ _) (by simp)
end Go.Ftx
namespace Go.Proofs.YtdibpklbkcmhiaaDoor
open Go.RowKit Go.Lib Go.Ftx

set_option maxHeartbeats 2000000 in
theorem mapLen_walk (w : World) (l : List UInt8) (bv : Value) (hb : BytesL w bv l) (hT : Utf8T w) :
    Calls Tryd.prog 9 #[bv] w (TruePost w) := by
  have hv := hb.code
  clear hb
  rcases hv.split with ⟨a, len, cap, rfl, hl, hl2⟩ | ⟨⟨a, len, cap, rfl, hl⟩, hC⟩
  · clear hv hT
    have hl' : (1048576 : Int) < (len : Int) := by omega
    go_enter Tryd.func9, Tryd.ntmps9
    go_wp2
    go_ret
    exact ⟨rfl, grefl w none⟩
  · have hl' : ¬ (1048576 : Int) < (len : Int) := by omega
    have HC := Lib.hid hC
    have HT := Lib.hid hT
    clear hv hC hT
    go_enter Tryd.func9, Tryd.ntmps9
    go_wp2_with fail
    refine (drawMap_any _ _ HC.out).mono ?_
    rintro e w1 ⟨tv, T, keep, rest, s, hT5, hok, hr0, hr1, hs, rfl, hRL, hg1⟩
    have HR := Lib.hid hRL
    have HOK := Lib.hid hok
    clear hRL hok
    have G1 := Lib.hid hg1
    clear hg1
    clear HC
    cases hvs : Lib.validD s.data.toList with
    | false =>
      go_wp2_with fail
      refine (valid_isM s _ false (by omega) (HT.out.grown G1.out) hvs).mono ?_
      rintro e w2 ⟨rfl, hg2⟩
      replace HR := Lib.hid (HR.out.kept hg2)
      have G2 := Lib.hid (gtrans G1.out hg2)
      clear hg2 G1
      go_wp2_with fail
      refine (mapped_is _ [] true 0 _ (⟨#[115, 111, 109, 101]⟩ : ByteArray) _ (RulesL.nil _) (by decide) okT_nil (by decide) (by decide) (HT.out.grown G2.out) (by decide +kernel)).mono ?_
      rintro e w3 ⟨rfl, hg3⟩
      have G3 := Lib.hid (gtrans G2.out hg3)
      clear hg3 G2
      go_wp2_with fail
      go_ret
      exact ⟨rfl, G3.out⟩
    | true =>
      go_wp2_with fail
      refine (valid_isM s _ true (by omega) (HT.out.grown G1.out) hvs).mono ?_
      rintro e w2 ⟨rfl, hg2⟩
      replace HR := Lib.hid (HR.out.kept hg2)
      have G2 := Lib.hid (gtrans G1.out hg2)
      clear hg2 G1
      cases hp : properT T keep rest with
      | false =>
        go_wp2_with fail
        refine (proper_is _ T keep rest _ false HR.out hp).mono ?_
        rintro e w3 ⟨rfl, hg3⟩
        replace HR := Lib.hid (HR.out.kept hg3)
        have G3 := Lib.hid (gtrans G2.out hg3)
        clear hg3 G2
        go_wp2_with fail
        refine (mapped_is _ [] true 0 _ (⟨#[115, 111, 109, 101]⟩ : ByteArray) _ (RulesL.nil _) (by decide) okT_nil (by decide) (by decide) (HT.out.grown G3.out) (by decide +kernel)).mono ?_
        rintro e w4 ⟨rfl, hg4⟩
        have G4 := Lib.hid (gtrans G3.out hg4)
        clear hg4 G3
        go_wp2_with fail
        go_ret
        exact ⟨rfl, G4.out⟩
      | true =>
        go_wp2_with fail
        refine (proper_is _ T keep rest _ true HR.out hp).mono ?_
        rintro e w3 ⟨rfl, hg3⟩
        replace HR := Lib.hid (HR.out.kept hg3)
        have G3 := Lib.hid (gtrans G2.out hg3)
        clear hg3 G2
        obtain ⟨o, ho⟩ := ex_outM (mapD (imgT T keep rest) s.data.toList)
        have zo := out_sizeM _ ho
        have HOUT := Lib.hid ho
        have hlc := chars_length s.data.toList
        rw [← Lib.size_eq] at hlc
        have hco : (chars o.data.toList).length = (mapR (imgT T keep rest) (chars s.data.toList)).length := by rw [← ho, chars_mapped hp, List.length_map]
        have hml := mapR_le (imgT T keep rest) (chars s.data.toList)
        obtain ⟨ta, tc, rfl, -, -⟩ := HR.out.form
        have CHR := Lib.hid (chars_char s.data.toList)
        clear ho
        go_wp2_with fail
        refine (chars_any s _ (by omega)).mono ?_
        rintro e w4 ⟨gb, cb, rfl, hown, hg4⟩
        replace HR := Lib.hid (HR.out.kept hg4)
        have HRN := Lib.hid (runesAt_of hown)
        clear hown
        have G4 := Lib.hid (gtrans G3.out hg4)
        clear hg4 G3
        generalize hrs : chars s.data.toList = rs at *
        have HRS := Lib.hid hrs
        have HCO := Lib.hid hco
        clear hrs hco
        go_wp2_with fail
        go_loopg [8, 9] rs.length (fun g s8 s9 wx => w4 = wx ∧ ∃ k c : Nat, k + g = rs.length ∧ s9 = .int .i64 k ∧ s8 = .int .i64 c ∧ c ≤ k ∧ Hid (c = (mapR (imgT T keep rest) (rs.take k)).length))
        case atStart => exact ⟨rfl, 0, 0, by omega, rfl, rfl, by omega, rfl⟩
        case round =>
          obtain ⟨rfl, k, c, hk, rfl, rfl, hck, HCC⟩ := hrel
          by_cases hlt : k < rs.length
          · have hzz : (k : Int) < (rs.length : Int) := by omega
            obtain ⟨g', rfl⟩ : ∃ g', gk = g' + 1 := ⟨gk - 1, by omega⟩
            have hcell := HRN.out k hlt
            have HST := Lib.hid (mapR_take (imgT T keep rest) rs k hlt)
            have cI := Lib.hid (image_any _ T keep rest ((rs.getD k 0 : Nat) : Int) w4 HR.out)
            generalize ((rs.getD k 0 : Nat) : Int) = x at *
            generalize imgT T keep rest x = Y at *
            go_wp2_with fail
            refine cI.out.mono ?_
            rintro e w' ⟨rfl, rfl⟩
            by_cases h0 : 0 ≤ Y
            · have hz0 : Y ≥ 0 := h0
              have HN := Lib.hid (show c + 1 = (mapR (imgT T keep rest) (rs.take (k + 1))).length by rw [HST.out, if_pos h0, ← HCC.out])
              go_wp2_with fail
              go_roundg g'
              case measure => omega
              case rel => exact ⟨rfl, k + 1, c + 1, by omega, by first | rfl | simp, by first | rfl | simp, by omega, HN.out⟩
            · have hz0 : ¬ (Y ≥ 0) := h0
              have HN := Lib.hid (show c = (mapR (imgT T keep rest) (rs.take (k + 1))).length by rw [HST.out, if_neg h0, Nat.add_zero, ← HCC.out])
              go_wp2_with fail
              go_roundg g'
              case measure => omega
              case rel => exact ⟨rfl, k + 1, c, by omega, by first | rfl | simp, rfl, by omega, HN.out⟩
          · have hzz : ¬ (k : Int) < (rs.length : Int) := by omega
            have hcc : (chars o.data.toList).length = c := by rw [HCO.out, HCC.out, List.take_of_length_le (by omega)]
            have hoz : (chars o.data.toList).length ≤ 9223372036854775807 := by omega
            have hci : (((chars o.data.toList).length : Nat) : Int) = (c : Int) := by omega
            go_wp2_with fail
            refine (mapped_is _ T keep rest s o _ HR.out (by omega) HOK.out ⟨hr0, hr1⟩ (by omega) (HT.out.grown G4.out) HOUT.out).mono ?_
            rintro e w5 ⟨rfl, hg5⟩
            have G5 := Lib.hid (gtrans G4.out hg5)
            clear hg5 G4
            go_wp2_with fail
            refine (chars_any o _ (by omega)).mono ?_
            rintro e w6 ⟨_, _, rfl, -, hg6⟩
            have G6 := Lib.hid (gtrans G5.out hg6)
            clear hg6 G5
            go_wp2_with fail
            refine (mapped_is _ [] true 0 _ (⟨#[115, 111, 109, 101]⟩ : ByteArray) _ (RulesL.nil _) (by decide) okT_nil (by decide) (by decide) (HT.out.grown G6.out) (by decide +kernel)).mono ?_
            rintro e w7 ⟨rfl, hg7⟩
            have G7 := Lib.hid (gtrans G6.out hg7)
            clear hg7 G6
            go_wp2_with fail
            go_ret
            exact ⟨rfl, G7.out⟩

end Go.Proofs.YtdibpklbkcmhiaaDoor
