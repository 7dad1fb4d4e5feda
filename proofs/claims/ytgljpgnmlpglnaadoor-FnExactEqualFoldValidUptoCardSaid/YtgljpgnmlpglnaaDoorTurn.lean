/- A text with what a function makes of each of its characters: laws.swapped (unicode.SimpleFold), laws.turned (whatever function value pays). Written by gen_turn.py. -/
import Derived.Test.YtgljpgnmlpglnaaDoorCharsW
import Derived.Test.YtgljpgnmlpglnaaDoorValid
import Derived.Test.YtgljpgnmlpglnaaDoorPlainC
import Derived.Test.YtgljpgnmlpglnaaDoorKinW
import Derived.Laws.Cover4
import Derived.WalkMore
namespace Go.Ftx
open Go.Lib
theorem byteEq (n : Nat) (z : Int) (h : z = n) : UInt8.ofNat n = z.toNat.toUInt8 := by subst h; rfl
theorem enc_text (z : Int) : (Utf8.encode z).data.toList = encodeRune z := by
  unfold Utf8.encode encodeRune
  by_cases hv : Utf8.valid z = true
  · have hz : (0 ≤ z ∧ z < 55296) ∨ (57344 ≤ z ∧ z ≤ 1114111) := by simpa [Utf8.valid] using hv
    simp only [hv, if_true]
    obtain ⟨n, rfl⟩ : ∃ n : Nat, z = n := ⟨z.toNat, by omega⟩
    simp only [Int.toNat_natCast]
    by_cases h1 : n < 128
    · rw [if_pos h1, encodeRuneZ_one (by omega) (by omega)]
      simp only [List.map_cons, List.map_nil]
      rw [byteEq n n rfl]
    · rw [if_neg h1]
      by_cases h2 : n < 2048
      · rw [if_pos h2, encodeRuneZ_two (by omega) (by omega)]
        simp only [List.map_cons, List.map_nil]
        rw [byteEq _ (192 + (n : Int) / 64) (by omega), byteEq _ (128 + (n : Int) % 64) (by omega)]
      · rw [if_neg h2]
        by_cases h3 : n < 65536
        · rw [if_pos h3, encodeRuneZ_three (by omega)]
          simp only [List.map_cons, List.map_nil]
          rw [byteEq _ (224 + (n : Int) / 4096) (by omega), byteEq _ (128 + (n : Int) / 64 % 64) (by omega), byteEq _ (128 + (n : Int) % 64) (by omega)]
        · rw [if_neg h3, encodeRuneZ_four (by omega) (by omega)]
          simp only [List.map_cons, List.map_nil]
          rw [byteEq _ (240 + (n : Int) / 262144) (by omega), byteEq _ (128 + (n : Int) / 4096 % 64) (by omega), byteEq _ (128 + (n : Int) / 64 % 64) (by omega), byteEq _ (128 + (n : Int) % 64) (by omega)]
  · have hz : ¬ ((0 ≤ z ∧ z < 55296) ∨ (57344 ≤ z ∧ z ≤ 1114111)) := by simpa [Utf8.valid] using hv
    have hb : encodeRuneZ z = [239, 191, 189] := by
      unfold encodeRuneZ
      rw [if_neg (by omega), if_neg (by omega), if_neg (by omega), if_neg (by omega)]
    have hc : (if Utf8.valid z = true then z.toNat else Utf8.runeError) = 65533 := by rw [if_neg hv]; rfl
    rw [hb]
    simp only [hc]
    rfl
theorem runes_fold (zs : List Int) : ∀ s : ByteArray, (zs.foldl (fun r n => r ++ Utf8.encode n) s).data.toList = s.data.toList ++ textOf zs := by
  induction zs with
  | nil => intro s; simp [textOf]
  | cons z zs ih =>
    intro s
    rw [List.foldl_cons, ih]
    show _ = s.data.toList ++ (encodeRune z ++ textOf zs)
    rw [← List.append_assoc]
    congr 1
    show (s ++ Utf8.encode z).data.toList = _
    rw [ByteArray.data_append, Array.toList_append, enc_text]
theorem runes_text (zs : List Int) : runesBytes zs = ⟨(textOf zs).toArray⟩ := by
  have h := runes_fold zs ByteArray.empty
  have e : (runesBytes zs).data.toList = textOf zs := h
  cases hb : runesBytes zs with
  | mk d =>
    rw [hb] at e
    rw [← e]
/-- a list of characters, the first k of them turned -/
def mix (f : Int → Int) (rs : List Nat) (k : Nat) : List Int := (rs.take k).map (fun (r : Nat) => f (r : Int)) ++ (rs.drop k).map fun (r : Nat) => (r : Int)
theorem mix_zero (f : Int → Int) (rs : List Nat) : mix f rs 0 = rs.map fun (r : Nat) => (r : Int) := by simp [mix]
theorem mix_all (f : Int → Int) (rs : List Nat) : mix f rs rs.length = rs.map fun (r : Nat) => f (r : Int) := by simp [mix]
theorem mix_length (f : Int → Int) (rs : List Nat) (k : Nat) : (mix f rs k).length = rs.length := by
  unfold mix
  rw [List.length_append, List.length_map, List.length_map, List.length_take, List.length_drop]
  omega
theorem mix_get (f : Int → Int) (rs : List Nat) (k : Nat) (h : k < rs.length) : (mix f rs k)[k]? = some ((rs.getD k 0 : Nat) : Int) := by
  unfold mix
  rw [List.getElem?_append_right (by simp; omega), List.length_map, List.length_take, Nat.min_eq_left (by omega), Nat.sub_self, List.drop_eq_getElem_cons h]
  simp [List.getD, h]
theorem mix_set (f : Int → Int) (rs : List Nat) (k : Nat) (h : k < rs.length) : (mix f rs k).set k (f ((rs.getD k 0 : Nat) : Int)) = mix f rs (k + 1) := by
  unfold mix
  rw [List.set_append_right _ _ (by simp; omega), List.length_map, List.length_take, Nat.min_eq_left (by omega), Nat.sub_self, List.drop_eq_getElem_cons h, List.map_cons, List.set_cons_zero,
    List.take_add_one, List.getElem?_eq_getElem h, show rs.getD k 0 = rs[k] by simp [List.getD, h]]
  simp only [List.map_append, Option.toList_some, List.map_cons, List.map_nil, List.append_assoc, List.singleton_append]
end Go.Ftx
namespace Go.Proofs.YtgljpgnmlpglnaaDoor
open Go.RowKit Go.Lib Go.Ftx

def zVals (zs : List Int) : List Value := zs.map (Value.int .i32)
theorem runeVals_z (rs : List Nat) : runeVals rs = zVals (rs.map fun (r : Nat) => (r : Int)) := by simp [runeVals, zVals]
theorem own_runes {w : World} {base g n cap : Nat} {zs : List Int} (hn : zs.length = n) (h : w.ownsRow base 21 1 (.slice (some ⟨g, 0, none⟩) n cap) n (zVals zs)) :
    (convert 29 9 (.slice (some ⟨g, 0, none⟩) n cap)).run Tryd.prog w = .ok (.string ⟨(textOf zs).toArray⟩) w := by
  subst hn
  have := run_convert_runes (P := Tryd.prog) w 29 9 21 ⟨g, 0, none⟩ zs.length cap zs (Nat.le_refl _) Tryd.underlying29 Tryd.underlying21 Tryd.underlying9 (fun j hj => by
    rw [Addr.add_lit, Nat.zero_add, h.cellAt j (by omega)]
    simp [zVals, List.getD, hj])
  rw [List.take_length, runes_text] at this
  exact this

set_option maxHeartbeats 2000000 in
theorem swapped_any (s : ByteArray) (w : World) (hs : s.size ≤ 70368744177664) (hT : FoldTabs w) :
    Calls Tryd.prog 20 #[.string s] w (StrPost w (textOf ((chars s.data.toList).map fun (r : Nat) => foldU (r : Int)))) := by
  have hln := chars_length s.data.toList
  rw [← Lib.size_eq] at hln
  have cC := Lib.hid (chars_any s w hs)
  have HT := Lib.hid hT
  clear hT
  have CH := Lib.hid (chars_char s.data.toList)
  generalize chars s.data.toList = rs at *
  go_enter Tryd.func20, Tryd.ntmps20
  go_wp2_with fail
  refine cC.out.mono ?_
  rintro e w1 ⟨gb, cap, rfl, hown, hg⟩
  have hgb : w.heap.size ≤ gb := (hown.lt gb rfl).1
  have HO := Lib.hid hown
  have HG := Lib.hid hg
  clear hown hg cC
  go_wp2_with fail
  go_loopg [4] rs.length (fun g v wx => ∃ k : Nat, k + g = rs.length ∧ v = .int .i64 k ∧ Hid (wx.ownsRow w.heap.size 21 1 (.slice (some ⟨gb, 0, none⟩) rs.length cap) rs.length (zVals (mix foldU rs k))) ∧ Hid (w.grownBy wx none))
  case atStart => exact ⟨0, by omega, rfl, by rw [mix_zero, ← runeVals_z]; exact HO.out, HG.out⟩
  case round =>
    obtain ⟨k, hk, rfl, HO', HG'⟩ := hrel
    clear HO HG
    by_cases hlt : k < rs.length
    · obtain ⟨g', rfl⟩ : ∃ g', gk = g' + 1 := ⟨gk - 1, by omega⟩
      have hz : (k : Int) < (rs.length : Int) := by omega
      have hmem : isChar ((rs.getD k 0 : Nat) : Int) := CH.out _ (by simp [List.getD, hlt])
      have hget := HO'.out.cellAt k (by omega)
      rw [show (zVals (mix foldU rs k))[k]? = some (.int .i32 ((rs.getD k 0 : Nat) : Int)) by rw [zVals, List.getElem?_map, mix_get _ _ _ hlt]; rfl] at hget
      have hfr := HO'.out.frozenAt k
      have HS := Lib.hid (show (zVals (mix foldU rs k)).set k (.int .i32 (foldU ((rs.getD k 0 : Nat) : Int))) = zVals (mix foldU rs (k + 1)) by rw [← mix_set _ _ _ hlt, zVals, zVals, List.map_set])
      generalize hx : ((rs.getD k 0 : Nat) : Int) = x at *
      clear hx
      have hcell : ∀ q, (wr.drewN q).cell? ⟨gb, k, none⟩ = some (.int .i32 x) := fun q => hget
      have hfrz : ∀ q, (wr.drewN q).frozen? ⟨gb, k, none⟩ = false := fun q => hfr
      have cF := Lib.hid (implFold_any x wr (HT.out.grown HG'.out))
      have HST := Lib.hid fun (q : Nat) (u : Value) => (show (wr.drewN q).ownsRow w.heap.size 21 1 (.slice (some ⟨gb, 0, none⟩) rs.length cap) rs.length (zVals (mix foldU rs k)) from HO'.out).stored k u
      have HGR := Lib.hid fun (q : Nat) => gdrewN HG'.out q
      clear HO' HG'
      generalize foldU x = y at *
      go_wp2_with fail
      refine cF.out.mono ?_
      rintro e w' ⟨rfl, q, rfl⟩
      go_wp2_with fail
      go_roundg g'
      case measure => omega
      case rel => exact ⟨k + 1, by omega, by first | rfl | simp, by rw [← HS.out]; exact (HST.out q _).1, gjoin (HGR.out q) (HST.out q _).2 hgb⟩
    · have hz : ¬ (k : Int) < (rs.length : Int) := by omega
      obtain rfl : k = rs.length := by omega
      have hcv := own_runes (mix_length foldU rs _) HO'.out
      rw [mix_all] at hcv
      generalize hOUT : textOf (rs.map fun (r : Nat) => foldU (r : Int)) = OUT at hcv
      have HOUT := Lib.hid hOUT
      clear hOUT
      clear HO' CH
      go_wp2
      go_ret
      exact ⟨by rw [HOUT.out]; rfl, HG'.out⟩

end Go.Proofs.YtgljpgnmlpglnaaDoor
