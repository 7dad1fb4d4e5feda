/- The functions on cases of slices of bytes: a new slice that holds the text of the characters' cases. Written by gen_bcase.py. -/
import Derived.Test.YtjcbhnnlakfmaaaDoorMapW
import Derived.Test.YtjcbhnnlakfmaaaDoorCase
import Derived.Shelf.Bytes.SlCase
namespace Go.Proofs.YtjcbhnnlakfmaaaDoor
open Go.Shelf Go.RowKit Go.Lib Go.Ftx
/-- a new slice of bytes that holds a text and may be written -/
def FreshP (w : World) (l : List UInt8) (e : Ending) (w' : World) : Prop := ∃ g cap, e = .returned (.slice (some ⟨g, 0, none⟩) l.length cap) ∧ w.heap.size ≤ g ∧ g < w'.heap.size ∧ l.length ≤ cap ∧ cap ≤ 9223372036854775807 ∧
  (∀ i, i < l.length → w'.cell? ⟨g, i, none⟩ = some (.int .u8 ((l.getD i 0).toNat : Int)) ∧ w'.frozen? ⟨g, i, none⟩ = false) ∧ w.grownBy w' none
theorem fresh_of_new {w w' : World} {l : List UInt8} {e : Ending} (h : NewBytes w l e w') : FreshP w l e w' := by
  obtain ⟨g, cap, he, hO, hg⟩ := h
  rcases hO.2 with ⟨h0, _⟩ | ⟨g', cap', cur, hv, hb, hh, hn, hm, hz, ht⟩
  · cases h0
  · cases hv
    have hlt : g < w'.heap.size := (Array.getElem?_eq_some_iff.1 hh).1
    refine ⟨g, cap, he, hb, hlt, hn, hm, fun i hi => ⟨?_, ?_⟩, hg⟩
    · rw [hO.cellAt i (by omega)]
      simp [byteVals, hi, List.getD]
    · simp [World.frozen?, hh]
theorem fresh_of_lib {w w' : World} {l : List UInt8} {v : Value} (h : Lib.FreshBytes w.heap.size w' v l) (hb : Below w.heap.size w w') (h0 : 0 < l.length) : FreshP w l (.returned v) w' := by
  obtain ⟨g, cap, zs, rfl, hge, hlc, hcm, hz, hr, hbo, hc, hf⟩ := h
  have hlt : g < w'.heap.size := World.block_lt_of_cell? w' _ (hc 0 (by omega))
  refine ⟨g, cap, rfl, hge, hlt, hlc, hcm, fun i hi => ⟨?_, hf i (by omega)⟩, belowg hb⟩
  rw [hc i (by omega)]
  have hiz : i < zs.length := by omega
  have hx := hr zs[i] (List.getElem_mem hiz)
  have e1 : l.getD i 0 = UInt8.ofNat (zs[i]).toNat := by
    conv => lhs; rw [← hbo]
    simp [Lib.bytesOf, List.getD, hi, hiz]
  rw [e1, show zs.getD i 0 = zs[i] by simp [List.getD, hiz]]
  have : (UInt8.ofNat (zs[i]).toNat).toNat = (zs[i]).toNat := by
    rw [UInt8.toNat_ofNat']
    omega
  rw [this]
  congr 2
  omega
theorem FreshP.bytes {w' : World} {l : List UInt8} {g cap : Nat} (h1 : l.length ≤ cap) (h2 : cap ≤ 9223372036854775807) (h3 : ∀ i, i < l.length → w'.cell? ⟨g, i, none⟩ = some (.int .u8 ((l.getD i 0).toNat : Int)) ∧ w'.frozen? ⟨g, i, none⟩ = false) : BytesL w' (.slice (some ⟨g, 0, none⟩) l.length cap) l :=
  .inr ⟨g, 0, cap, rfl, h1, h2, fun i hi => by rw [Nat.zero_add]; exact (h3 i hi).1⟩


set_option maxHeartbeats 2000000 in
theorem bytesUpper_beyond (b o c : Nat) (l : List UInt8) (w : World) (hlc : l.length ≤ c) (hc63 : c ≤ 9223372036854775807) (hc : ∀ i, i < l.length → w.cell? ⟨b, o + i, none⟩ = some (.int .u8 ((l.getD i 0).toNat : Int))) (hs : l.length < 35184372088832) (hh : ∃ j, j < l.length ∧ 128 ≤ (l.getD j 0).toNat) (hT : CTabs w) :
    Calls Tryd.prog 52 #[.slice (some ⟨b, o, none⟩) l.length c] w (NewBytes w (mapD toUpperU l)) := by
  have cM := Lib.hid (bytesMap_any 61 #[] (enters_of Tryd.func61 (by kernel_rfl) rfl) toUpperU (.slice (some ⟨b, o, none⟩) l.length c) l w (.inr ⟨b, o, c, rfl, hlc, hc63, hc⟩) hs hT.2 (pays_of (fun W x h => uniUpper_any W x h) hT.1) (turns_range toUpperU_range))
  generalize mapD toUpperU l = OUT at *
  have HC := Lib.hid hc
  have HH := Lib.hid hh
  clear hc hh hT
  have hl63 : l.length ≤ 9223372036854775807 := by omega
  go_enter Tryd.func52, Tryd.ntmps52
  go_wp2_with fail
  go_loopg [3, 4, 5] l.length (fun gk s3 s4 s5 wx => w = wx ∧ s3 = .bool true ∧ ∃ (i : Nat) (hu : Bool), s4 = .bool hu ∧ s5 = .int .i64 i ∧ i + gk = l.length ∧ Hid (∀ j, j < i → (l.getD j 0).toNat < 128))
  case atStart => exact ⟨rfl, rfl, 0, false, rfl, rfl, by omega, fun j hj => absurd hj (by omega)⟩
  case round =>
    obtain ⟨rfl, rfl, i, hu, rfl, rfl, hi, HA⟩ := hrel
    by_cases hlt : i < l.length
    · obtain ⟨g', rfl⟩ : ∃ g', gk = g' + 1 := ⟨gk - 1, by omega⟩
      have hiz : (i : Int) < (l.length : Int) := by omega
      have hcell := HC.out i hlt
      have hx256 := (l.getD i 0).toNat_lt
      by_cases h128 : (l.getD i 0).toNat < 128
      · have HA2 := Lib.hid (show ∀ j, j < i + 1 → (l.getD j 0).toNat < 128 from fun j hj => by
          by_cases e : j = i
          · rw [e]; exact h128
          · exact HA.out j (by omega))
        generalize (l.getD i 0).toNat = x at *
        have hxz : ¬ ((128 : Int) ≤ (x : Int)) := by omega
        clear HA
        go_wp2
        all_goals (go_roundg g' <;> first
          | omega
          | exact ⟨rfl, rfl, i + 1, _, rfl, by first | rfl | simp, by omega, HA2.out⟩)
      · generalize (l.getD i 0).toNat = x at *
        have hxz : (128 : Int) ≤ (x : Int) := by omega
        clear HA
        go_wp2_with (go_at_call 64; refine cM.out.mono ?_; rintro e w' ⟨g, cap2, rfl, hown, hg⟩)
        all_goals (go_ret; exact ⟨g, cap2, rfl, hown, hg⟩)
    · exfalso
      obtain ⟨j, hj, h8⟩ := HH.out
      have := HA.out j (by omega)
      omega
theorem bytesUpper_any (v : Value) (l : List UInt8) (w : World) (hB : BytesL w v l) (hs : l.length < 35184372088832) (hT : CTabs w) : Calls Tryd.prog 52 #[v] w (FreshP w (mapD toUpperU l)) := by
  rcases hB with ⟨a, c, rfl, rfl⟩ | ⟨b, o, c, rfl, hlc, hc63, hc⟩
  · refine (Tryd.bytes_ToUpper_empty a c w).mono fun e w' ⟨he, hw⟩ => ?_
    subst hw
    exact ⟨_, _, he, Nat.le_refl _, (by rw [asize]; omega), Nat.le_refl _, by omega, fun i hi => absurd hi (by simp [mapD, mapGoD]), World.grownBy_alloc w _ none⟩
  · by_cases ha : ∀ j, j < l.length → (l.getD j 0).toNat < 128
    · by_cases h0 : l = []
      · subst h0
        refine (Tryd.bytes_ToUpper_empty (some ⟨b, o, none⟩) c w).mono fun e w' ⟨he, hw⟩ => ?_
        subst hw
        exact ⟨_, _, he, Nat.le_refl _, (by rw [asize]; omega), Nat.le_refl _, by omega, fun i hi => absurd hi (by simp [mapD, mapGoD]), World.grownBy_alloc w _ none⟩
      · have hz : (⟨l.toArray⟩ : ByteArray).size = l.length := by show l.toArray.size = _; simp
        have hpos : 0 < l.length := List.length_pos_iff.2 h0
        have h := Tryd.bytes_ToUpper_ascii b o c ⟨l.toArray⟩ w (fun i hi => by
          rw [hz] at hi
          rw [hc i hi]
          have : (⟨l.toArray⟩ : ByteArray)[i] = l.getD i 0 := by
            show l.toArray[i] = _
            simp [List.getD, hi]
          rw [this]) (by rw [hz]; exact hpos) (by rw [hz]; omega) (fun j x hx => by
          have hj : j < l.length := (List.getElem?_eq_some_iff.1 hx).1
          have := ha j hj
          have e : l.getD j 0 = x := by
            have hx' : l[j]? = some x := hx
            simp [List.getD, hx']
          rw [e] at this
          exact this)
        rw [hz] at h
        have e1 : mapD toUpperU l = Lib.toUpperA l := by
          have := Lib.toUpperD_ascii l (fun x hx => by
            obtain ⟨j, hj⟩ := List.getElem?_of_mem hx
            have hjl : j < l.length := (List.getElem?_eq_some_iff.1 hj).1
            have h1 := ha j hjl
            have e : l.getD j 0 = x := by simp [List.getD, hj]
            rw [e] at h1
            exact h1)
          exact this
        rw [e1]
        exact h.mono fun e w' ⟨v', he, hf, hb⟩ => he ▸ fresh_of_lib hf hb (by rw [show (Lib.toUpperA l).length = l.length by simp [Lib.toUpperA]]; exact hpos)
    · have hh : ∃ j, j < l.length ∧ 128 ≤ (l.getD j 0).toNat := by
        apply Classical.byContradiction
        intro hn
        exact ha fun j hj => Classical.byContradiction fun h => hn ⟨j, hj, by omega⟩
      exact (bytesUpper_beyond b o c l w hlc hc63 hc hs hh hT).mono fun e w' h => fresh_of_new h


set_option maxHeartbeats 2000000 in
theorem bytesLower_beyond (b o c : Nat) (l : List UInt8) (w : World) (hlc : l.length ≤ c) (hc63 : c ≤ 9223372036854775807) (hc : ∀ i, i < l.length → w.cell? ⟨b, o + i, none⟩ = some (.int .u8 ((l.getD i 0).toNat : Int))) (hs : l.length < 35184372088832) (hh : ∃ j, j < l.length ∧ 128 ≤ (l.getD j 0).toNat) (hT : CTabs w) :
    Calls Tryd.prog 54 #[.slice (some ⟨b, o, none⟩) l.length c] w (NewBytes w (mapD toLowerU l)) := by
  have cM := Lib.hid (bytesMap_any 60 #[] (enters_of Tryd.func60 (by kernel_rfl) rfl) toLowerU (.slice (some ⟨b, o, none⟩) l.length c) l w (.inr ⟨b, o, c, rfl, hlc, hc63, hc⟩) hs hT.2 (pays_of (fun W x h => uniLower_any W x h) hT.1) (turns_range toLowerU_range))
  generalize mapD toLowerU l = OUT at *
  have HC := Lib.hid hc
  have HH := Lib.hid hh
  clear hc hh hT
  have hl63 : l.length ≤ 9223372036854775807 := by omega
  go_enter Tryd.func54, Tryd.ntmps54
  go_wp2_with fail
  go_loopg [3, 4, 5] l.length (fun gk s3 s4 s5 wx => w = wx ∧ s3 = .bool true ∧ ∃ (i : Nat) (hu : Bool), s4 = .bool hu ∧ s5 = .int .i64 i ∧ i + gk = l.length ∧ Hid (∀ j, j < i → (l.getD j 0).toNat < 128))
  case atStart => exact ⟨rfl, rfl, 0, false, rfl, rfl, by omega, fun j hj => absurd hj (by omega)⟩
  case round =>
    obtain ⟨rfl, rfl, i, hu, rfl, rfl, hi, HA⟩ := hrel
    by_cases hlt : i < l.length
    · obtain ⟨g', rfl⟩ : ∃ g', gk = g' + 1 := ⟨gk - 1, by omega⟩
      have hiz : (i : Int) < (l.length : Int) := by omega
      have hcell := HC.out i hlt
      have hx256 := (l.getD i 0).toNat_lt
      by_cases h128 : (l.getD i 0).toNat < 128
      · have HA2 := Lib.hid (show ∀ j, j < i + 1 → (l.getD j 0).toNat < 128 from fun j hj => by
          by_cases e : j = i
          · rw [e]; exact h128
          · exact HA.out j (by omega))
        generalize (l.getD i 0).toNat = x at *
        have hxz : ¬ ((128 : Int) ≤ (x : Int)) := by omega
        clear HA
        go_wp2
        all_goals (go_roundg g' <;> first
          | omega
          | exact ⟨rfl, rfl, i + 1, _, rfl, by first | rfl | simp, by omega, HA2.out⟩)
      · generalize (l.getD i 0).toNat = x at *
        have hxz : (128 : Int) ≤ (x : Int) := by omega
        clear HA
        go_wp2_with (go_at_call 64; refine cM.out.mono ?_; rintro e w' ⟨g, cap2, rfl, hown, hg⟩)
        all_goals (go_ret; exact ⟨g, cap2, rfl, hown, hg⟩)
    · exfalso
      obtain ⟨j, hj, h8⟩ := HH.out
      have := HA.out j (by omega)
      omega
theorem bytesLower_any (v : Value) (l : List UInt8) (w : World) (hB : BytesL w v l) (hs : l.length < 35184372088832) (hT : CTabs w) : Calls Tryd.prog 54 #[v] w (FreshP w (mapD toLowerU l)) := by
  rcases hB with ⟨a, c, rfl, rfl⟩ | ⟨b, o, c, rfl, hlc, hc63, hc⟩
  · refine (Tryd.bytes_ToLower_empty a c w).mono fun e w' ⟨he, hw⟩ => ?_
    subst hw
    exact ⟨_, _, he, Nat.le_refl _, (by rw [asize]; omega), Nat.le_refl _, by omega, fun i hi => absurd hi (by simp [mapD, mapGoD]), World.grownBy_alloc w _ none⟩
  · by_cases ha : ∀ j, j < l.length → (l.getD j 0).toNat < 128
    · by_cases h0 : l = []
      · subst h0
        refine (Tryd.bytes_ToLower_empty (some ⟨b, o, none⟩) c w).mono fun e w' ⟨he, hw⟩ => ?_
        subst hw
        exact ⟨_, _, he, Nat.le_refl _, (by rw [asize]; omega), Nat.le_refl _, by omega, fun i hi => absurd hi (by simp [mapD, mapGoD]), World.grownBy_alloc w _ none⟩
      · have hz : (⟨l.toArray⟩ : ByteArray).size = l.length := by show l.toArray.size = _; simp
        have hpos : 0 < l.length := List.length_pos_iff.2 h0
        have h := Tryd.bytes_ToLower_ascii b o c ⟨l.toArray⟩ w (fun i hi => by
          rw [hz] at hi
          rw [hc i hi]
          have : (⟨l.toArray⟩ : ByteArray)[i] = l.getD i 0 := by
            show l.toArray[i] = _
            simp [List.getD, hi]
          rw [this]) (by rw [hz]; exact hpos) (by rw [hz]; omega) (fun j x hx => by
          have hj : j < l.length := (List.getElem?_eq_some_iff.1 hx).1
          have := ha j hj
          have e : l.getD j 0 = x := by
            have hx' : l[j]? = some x := hx
            simp [List.getD, hx']
          rw [e] at this
          exact this)
        rw [hz] at h
        have e1 : mapD toLowerU l = Lib.toLowerA l := by
          have := Lib.toLowerD_ascii l (fun x hx => by
            obtain ⟨j, hj⟩ := List.getElem?_of_mem hx
            have hjl : j < l.length := (List.getElem?_eq_some_iff.1 hj).1
            have h1 := ha j hjl
            have e : l.getD j 0 = x := by simp [List.getD, hj]
            rw [e] at h1
            exact h1)
          exact this
        rw [e1]
        exact h.mono fun e w' ⟨v', he, hf, hb⟩ => he ▸ fresh_of_lib hf hb (by rw [show (Lib.toLowerA l).length = l.length by simp [Lib.toLowerA]]; exact hpos)
    · have hh : ∃ j, j < l.length ∧ 128 ≤ (l.getD j 0).toNat := by
        apply Classical.byContradiction
        intro hn
        exact ha fun j hj => Classical.byContradiction fun h => hn ⟨j, hj, by omega⟩
      exact (bytesLower_beyond b o c l w hlc hc63 hc hs hh hT).mono fun e w' h => fresh_of_new h


theorem bytesTitle_any (v : Value) (l : List UInt8) (w : World) (hB : BytesL w v l) (hs : l.length < 35184372088832) (hT : CTabs w) : Calls Tryd.prog 56 #[v] w (FreshP w (mapD toTitleU l)) := by
  have cM := Lib.hid (bytesMap_any 59 #[] (enters_of Tryd.func59 (by kernel_rfl) rfl) toTitleU v l w hB hs hT.2 (pays_of (fun W x h => uniTitle_any W x h) hT.1) (turns_range titleU_range))
  obtain ⟨a2, n2, c2, rfl⟩ : ∃ a n c, v = .slice a n c := by
    rcases hB with ⟨a, c, rfl, -⟩ | ⟨b, o, c, rfl, -⟩
    · exact ⟨_, _, _, rfl⟩
    · exact ⟨_, _, _, rfl⟩
  generalize mapD toTitleU l = OUT at *
  clear hT hB
  go_enter Tryd.func56, Tryd.ntmps56
  go_wp2_with fail
  refine cM.out.mono ?_
  rintro e w' ⟨g, cap2, rfl, hown, hg⟩
  have HF := Lib.hid (fresh_of_new ⟨g, cap2, rfl, hown, hg⟩)
  clear hown hg
  go_wp2_with fail
  go_ret
  exact HF.out


theorem implUpperB_any (v : Value) (l : List UInt8) (w : World) (hB : BytesL w v l) (hs : l.length < 35184372088832) (hT : CTabs w) : Calls Tryd.prog 20 #[v] w (FreshP w (mapD toUpperU l)) := by
  have cM := Lib.hid (bytesUpper_any v l w hB hs hT)
  obtain ⟨a2, n2, c2, rfl⟩ : ∃ a n c, v = .slice a n c := by
    rcases hB with ⟨a, c, rfl, -⟩ | ⟨b, o, c, rfl, -⟩
    · exact ⟨_, _, _, rfl⟩
    · exact ⟨_, _, _, rfl⟩
  generalize mapD toUpperU l = OUT at *
  clear hT hB
  go_enter Tryd.func20, Tryd.ntmps20
  go_wp2_with fail
  refine cM.out.mono ?_
  rintro e w' ⟨g, cap2, rfl, hr⟩
  have HF := Lib.hid hr
  clear hr
  go_wp2_with fail
  go_ret
  exact ⟨g, cap2, rfl, HF.out⟩


theorem implLowerB_any (v : Value) (l : List UInt8) (w : World) (hB : BytesL w v l) (hs : l.length < 35184372088832) (hT : CTabs w) : Calls Tryd.prog 22 #[v] w (FreshP w (mapD toLowerU l)) := by
  have cM := Lib.hid (bytesLower_any v l w hB hs hT)
  obtain ⟨a2, n2, c2, rfl⟩ : ∃ a n c, v = .slice a n c := by
    rcases hB with ⟨a, c, rfl, -⟩ | ⟨b, o, c, rfl, -⟩
    · exact ⟨_, _, _, rfl⟩
    · exact ⟨_, _, _, rfl⟩
  generalize mapD toLowerU l = OUT at *
  clear hT hB
  go_enter Tryd.func22, Tryd.ntmps22
  go_wp2_with fail
  refine cM.out.mono ?_
  rintro e w' ⟨g, cap2, rfl, hr⟩
  have HF := Lib.hid hr
  clear hr
  go_wp2_with fail
  go_ret
  exact ⟨g, cap2, rfl, HF.out⟩


theorem implTitleB_any (v : Value) (l : List UInt8) (w : World) (hB : BytesL w v l) (hs : l.length < 35184372088832) (hT : CTabs w) : Calls Tryd.prog 24 #[v] w (FreshP w (mapD toTitleU l)) := by
  have cM := Lib.hid (bytesTitle_any v l w hB hs hT)
  obtain ⟨a2, n2, c2, rfl⟩ : ∃ a n c, v = .slice a n c := by
    rcases hB with ⟨a, c, rfl, -⟩ | ⟨b, o, c, rfl, -⟩
    · exact ⟨_, _, _, rfl⟩
    · exact ⟨_, _, _, rfl⟩
  generalize mapD toTitleU l = OUT at *
  clear hT hB
  go_enter Tryd.func24, Tryd.ntmps24
  go_wp2_with fail
  refine cM.out.mono ?_
  rintro e w' ⟨g, cap2, rfl, hr⟩
  have HF := Lib.hid hr
  clear hr
  go_wp2_with fail
  go_ret
  exact ⟨g, cap2, rfl, HF.out⟩

end Go.Proofs.YtjcbhnnlakfmaaaDoor
