/- Texts mapped by a table: impl.Map, impl.MapBytes, laws.mapped, spec.Map return the text of the characters' images; spec.Proper. Written by gen_mapw.py. -/
import Derived.Test.YtjcbhnnlakfmaaaDoorTabW
import Derived.Laws.MakeOwn
import Derived.Test.YtjcbhnnlakfmaaaDoorShelf
import Derived.Shelf.Spec.BytesMap
namespace Go.Proofs.YtjcbhnnlakfmaaaDoor
open Go.Shelf Go.RowKit Go.Lib Go.Ftx

theorem own_lower {w : World} {b b' : Nat} {e : TypeId} {k : Nat} {v : Value} {n : Nat} {xs : List Value} (h : w.ownsRow b e k v n xs) (hb : b' ≤ b) : w.ownsRow b' e k v n xs := by
  refine ⟨h.1, ?_⟩
  rcases h.2 with h0 | ⟨g, cap, cur, e1, e2, rest⟩
  · exact .inl h0
  · exact .inr ⟨g, cap, cur, e1, Nat.le_trans hb e2, rest⟩

theorem own_types {w : World} {b b' : Nat} {e e' : TypeId} {g n n' c c' : Nat} {xs xs' : List Value} (hne : e ≠ e') (h : w.ownsRow b e 1 (.slice (some ⟨g, 0, none⟩) n c) n xs) (h' : w.ownsRow b' e' 1 (.slice (some ⟨g, 0, none⟩) n' c') n' xs') : False := by
  rcases h.2 with ⟨h0, _⟩ | ⟨g1, c1, cur1, e1, _, hg1, _⟩
  · cases h0
  rcases h'.2 with ⟨h0, _⟩ | ⟨g2, c2, cur2, e2, _, hg2, _⟩
  · cases h0
  cases e1
  cases e2
  rw [hg1] at hg2
  cases hg2
  exact hne rfl
theorem byteVals_app (a b : List UInt8) : byteVals (a ++ b) = byteVals a ++ byteVals b := by simp [byteVals]
theorem byteVals_len (a : List UInt8) : (byteVals a).length = a.length := by simp [byteVals]
theorem byteCells_vals (l : List UInt8) : Lib.byteCells l = byteVals l := by simp [Lib.byteCells, byteVals]
theorem mapR_step (f : Int → Int) (rs : List Nat) (k : Nat) (h : k < rs.length) : mapR f (rs.drop k) = if 0 ≤ f ((rs.getD k 0 : Nat) : Int) then f ((rs.getD k 0 : Nat) : Int) :: mapR f (rs.drop (k + 1)) else mapR f (rs.drop (k + 1)) := by
  rw [List.drop_eq_getElem_cons h, show rs.getD k 0 = rs[k] by simp [List.getD, h]]
  unfold mapR
  rw [List.map_cons]
  split
  · rename_i h0
    rw [List.filter_cons_of_pos (by simpa using h0)]
  · rename_i h0
    rw [List.filter_cons_of_neg (by simpa using h0)]

theorem proper_step (T : List (Int × Int)) (keep : Bool) (rest : Int) (k : Nat) (h : k < T.length) : properT (T.drop k) keep rest = (properV (T.getD k (0, 0)).2 && properT (T.drop (k + 1)) keep rest) := by
  rw [List.drop_eq_getElem_cons h, show T.getD k (0, 0) = T[k] by simp [List.getD, h]]
  unfold properT
  rw [List.all_cons, Bool.and_assoc]

set_option maxHeartbeats 2000000 in
theorem implMap_any (v : Value) (T : List (Int × Int)) (keep : Bool) (rest : Int) (s : ByteArray) (w : World) (hT : RulesL w v T) (hok : okT T) (hr0 : -2147483648 ≤ rest) (hr1 : rest ≤ 2147483647) (hs : s.size < 35184372088832) (hU : Utf8T w) :
    Calls Tryd.prog 46 #[v, .bool keep, .int .i32 rest, .string s] w (StrPost w (mapD (imgT T keep rest) s.data.toList)) := by
  have hp := clo_pays w v T keep rest hT
  have cM : Calls Tryd.prog 69 #[.func (.func 79) #[] (mapBound w), .string s] (mapWorld w v keep rest) _ :=
    Tryd.strings_Map_grows 79 (mapBound w) (enters_of Tryd.func79 (by kernel_rfl) rfl) (imgT T keep rest) s (mapWorld w v keep rest) hs hp (fun x hx => imgT_range T keep rest x hok hr0 hr1 (by omega) (by omega)) (hU.grown (mapWorld_grown w v keep rest))
  have CM := Lib.hid cM
  obtain ⟨a, cap, rfl, -, -⟩ := hT.form
  have cA := Lib.hid (mapping_any a T.length cap keep rest w)
  have HG := Lib.hid (mapWorld_grown w (.slice a T.length cap) keep rest)
  generalize mapD (imgT T keep rest) s.data.toList = OUT at *
  clear cM hp hT hok hU
  generalize mapWorld w (.slice a T.length cap) keep rest = WM at *
  generalize mapBound w = LB at *
  generalize T.length = n at *
  go_enter Tryd.func46, Tryd.ntmps46
  go_wp2_with fail
  refine cA.out.mono ?_
  rintro e w' ⟨rfl, rfl⟩
  go_wp2_with fail
  refine CM.out.mono ?_
  rintro e w' ⟨rfl, hb⟩
  have HB := Lib.hid (gtrans HG.out (belowg hb))
  clear hb
  go_wp2_with fail
  go_ret
  exact ⟨rfl, HB.out⟩

set_option maxHeartbeats 2000000 in
theorem mapped_any (v : Value) (T : List (Int × Int)) (keep : Bool) (rest : Int) (s : ByteArray) (w : World) (hT : RulesL w v T) (hn : T.length ≤ 8000000) (hok : okT T) (hr0 : -2147483648 ≤ rest) (hr1 : rest ≤ 2147483647) (hs : s.size < 35184372088832) (hU : Utf8T w) :
    Calls Tryd.prog 15 #[v, .bool keep, .int .i32 rest, .string s] w (StrPost w (mapD (imgT T keep rest) s.data.toList)) := by
  have cR := Lib.hid (rules_any v T w hT hn)
  obtain ⟨a, cap, rfl, -, -⟩ := hT.form
  have HU := Lib.hid hU
  have HOK := Lib.hid hok
  generalize hOUT : mapD (imgT T keep rest) s.data.toList = OUT
  have HOUT := Lib.hid hOUT
  clear hT hok hU hOUT
  go_enter Tryd.func15, Tryd.ntmps15
  go_wp2_with fail
  refine cR.out.mono ?_
  rintro e w1 ⟨v', rfl, hown, hnn, hg⟩
  have HG := Lib.hid hg
  have CM := Lib.hid (implMap_any v' T keep rest s w1 (rules_of_own hown) HOK.out hr0 hr1 hs (HU.out.grown hg))
  rw [HOUT.out] at CM
  clear hown hg cR hnn
  go_wp2_with fail
  refine CM.out.mono ?_
  rintro e w' ⟨rfl, hb⟩
  have HB := Lib.hid (gtrans HG.out hb)
  clear hb
  go_wp2_with fail
  go_ret
  exact ⟨rfl, HB.out⟩

/-- a new slice of bytes, of the call's own, that holds a text -/
def NewBytes (w : World) (l : List UInt8) (e : Ending) (w' : World) : Prop := ∃ g cap, e = .returned (.slice (some ⟨g, 0, none⟩) l.length cap) ∧ w'.ownsRow w.heap.size 5 1 (.slice (some ⟨g, 0, none⟩) l.length cap) l.length (byteVals l) ∧ w.grownBy w' none
set_option maxHeartbeats 2000000 in
theorem bytesMap_empty (fv : Value) (a : Option Addr) (c : Nat) (w : World) : Calls Tryd.prog 64 #[fv, .slice a 0 c] w (NewBytes w []) := by
  obtain ⟨i0, hi, hz0, hz1, hz2⟩ := info_parts infoU8
  obtain ⟨w0, hmk, hown0, hg0⟩ := run_make_own (P := Tryd.prog) w w.heap.size 22 5 i0 (.int .u8 0) 1 Tryd.underlying22 hi hz0 hz1 .i64 .i64 0 (by omega) (by unfold maxLen; omega) (Nat.le_refl _)
  rw [show ((0 : Nat) : Int) = 0 from rfl] at hmk
  go_enter Tryd.func64, Tryd.ntmps64
  go_wp2
  go_loop [5, 6] (fun s5 s6 => s5 = .slice (some ⟨w.heap.size, 0, none⟩) 0 0 ∧ s6 = .int .i64 0) (fun _ _ => 0)
  case atStart => exact ⟨rfl, rfl⟩
  case round =>
    obtain ⟨rfl, rfl⟩ := hrel
    go_wp2
    go_ret
    exact ⟨_, _, rfl, hown0, hg0⟩
theorem bytesMap_any (g : Nat) (lb : Array Value) (eg : ∀ args w, (callFunc g args).run Tryd.prog w = .ok (.enter g args) w) (f : Int → Int) (v : Value) (l : List UInt8) (w : World) (hB : BytesL w v l) (hs : l.length < 35184372088832) (hU : Utf8T w)
    (hf : MapGrows Tryd.prog g lb f w) (hnn : ∀ x : Nat, x ≤ 1114111 → -2147483648 ≤ f x ∧ f x ≤ 2147483647) :
    Calls Tryd.prog 64 #[.func (.func g) #[] lb, v] w (NewBytes w (mapD f l)) := by
  have fin : ∀ {e : Ending} {w' : World}, (∃ v', e = .returned v' ∧ v' ≠ .slice none 0 0 ∧ w'.ownsRow w.heap.size 5 1 v' (mapD f l).length (Lib.byteCells (mapD f l)) ∧ Below w.heap.size w w') → NewBytes w (mapD f l) e w' := by
    rintro e w' ⟨v', rfl, hne, hown, hb⟩
    obtain ⟨g, cap, rfl, -, -⟩ := own_form hown hne
    rw [byteCells_vals] at hown
    exact ⟨g, cap, rfl, hown, belowg hb⟩
  rcases hB with ⟨a, c, rfl, rfl⟩ | ⟨b, o, c, rfl, hlc, hc63, hc⟩
  · exact bytesMap_empty _ a c w
  · have hz : (⟨l.toArray⟩ : ByteArray).size = l.length := by show l.toArray.size = _; simp
    have cM := Any7.bytes_Map Tryd.laysBytesMap Tryd.lays242 rfl rfl g lb eg f ⟨l.toArray⟩ b o c w (by rw [hz]; exact hlc) (by rw [hz]; exact hs) (fun j hj => by
      rw [hz] at hj
      rw [hc j hj]
      have : (⟨l.toArray⟩ : ByteArray).get! j = l.getD j 0 := by
        show l.toArray[j]! = _
        simp [List.getD, hj]
      rw [this]) hU hf hnn
    rw [hz] at cM
    exact cM.mono fun e w' h => fin h

set_option maxHeartbeats 2000000 in
theorem implMapB_any (v : Value) (T : List (Int × Int)) (keep : Bool) (rest : Int) (u : Value) (l : List UInt8) (w : World) (hT : RulesL w v T) (hok : okT T) (hr0 : -2147483648 ≤ rest) (hr1 : rest ≤ 2147483647) (hB : BytesL w u l) (hs : l.length < 35184372088832) (hU : Utf8T w) :
    Calls Tryd.prog 35 #[v, .bool keep, .int .i32 rest, u] w (NewBytes w (mapD (imgT T keep rest) l)) := by
  have hp := clo_pays w v T keep rest hT
  have hg0 := mapWorld_grown w v keep rest
  have CM := Lib.hid (bytesMap_any 79 (mapBound w) (enters_of Tryd.func79 (by kernel_rfl) rfl) (imgT T keep rest) u l (mapWorld w v keep rest) (hB.kept hg0) hs (hU.grown hg0) hp (fun x hx => imgT_range T keep rest x hok hr0 hr1 (by omega) (by omega)))
  obtain ⟨a, cap, rfl, -, -⟩ := hT.form
  have cA := Lib.hid (mapping_any a T.length cap keep rest w)
  have HG := Lib.hid hg0
  generalize mapD (imgT T keep rest) l = OUT at *
  obtain ⟨a2, n2, c2, rfl⟩ : ∃ a n c, u = .slice a n c := by
    rcases hB with ⟨a, c, rfl, -⟩ | ⟨b, o, c, rfl, -⟩
    · exact ⟨_, _, _, rfl⟩
    · exact ⟨_, _, _, rfl⟩
  clear hp hT hok hU hB hg0
  generalize mapWorld w (.slice a T.length cap) keep rest = WM at *
  generalize mapBound w = LB at *
  generalize T.length = n at *
  go_enter Tryd.func35, Tryd.ntmps35
  go_wp2_with fail
  refine cA.out.mono ?_
  rintro e w' ⟨rfl, rfl⟩
  go_wp2_with fail
  refine CM.out.mono ?_
  rintro e w' ⟨g, cap2, rfl, hown, hg⟩
  have HB := Lib.hid (gtrans HG.out hg)
  have HO := Lib.hid (own_lower hown HG.out.size)
  clear hown hg
  go_wp2_with fail
  go_ret
  exact ⟨g, cap2, rfl, HO.out, HB.out⟩

set_option maxHeartbeats 2000000 in
theorem specMap_any (v : Value) (T : List (Int × Int)) (keep : Bool) (rest : Int) (s : ByteArray) (w : World) (hT : RulesL w v T) (hok : okT T) (hr0 : -2147483648 ≤ rest) (hr1 : rest ≤ 2147483647) (hs : s.size < 35184372088000) :
    Calls Tryd.prog 37 #[v, .bool keep, .int .i32 rest, .string s] w (StrPost w (mapD (imgT T keep rest) s.data.toList)) := by
  rw [mapD_chars]
  have hln := chars_length s.data.toList
  rw [← Lib.size_eq] at hln
  have cC := Lib.hid fun (W : World) => chars_any s W (by omega)
  have CH := Lib.hid (chars_char s.data.toList)
  have HT := Lib.hid hT
  have HOK := Lib.hid hok
  obtain ⟨a, tc, rfl, -, -⟩ := hT.form
  generalize chars s.data.toList = rs at *
  generalize hOUT : textOf (mapR (imgT T keep rest) rs) = OUT
  have HOUT := Lib.hid hOUT
  clear hT hok hOUT
  go_enter Tryd.func37, Tryd.ntmps37
  go_wp2_with fail
  refine (cC.out _).mono ?_
  rintro e w1 ⟨gb, cap, rfl, hown, hg⟩
  have hg1 := gtrans (World.grownBy_alloc w (.cells #[] 5) none) hg
  have HO := Lib.hid (show w1.ownsRow w.heap.size 5 1 (.slice (some ⟨w.heap.size, 0, none⟩) 0 0) 0 [] from (World.ownsRow_lit (size := 1) w #[] 0 (Nat.le_refl w.heap.size) (by unfold maxLen; omega) rfl).kept hg (.inr (by simp [Value.ownBlock])))
  have HG := Lib.hid hg1
  have HR := Lib.hid (own_lower hown (by rw [asize]; omega : w.heap.size ≤ _))
  clear hown hg hg1 cC
  go_wp2_with fail
  go_loopg [9, 11] rs.length (fun g s9 s11 wx => ∃ (k gc cc : Nat) (out : List UInt8), k + g = rs.length ∧ s11 = .int .i64 k ∧ s9 = .slice (some ⟨gc, 0, none⟩) out.length cc ∧ out.length ≤ 4 * k ∧
    Hid (wx.ownsRow w.heap.size 5 1 (.slice (some ⟨gc, 0, none⟩) out.length cc) out.length (byteVals out)) ∧ Hid (out ++ textOf (mapR (imgT T keep rest) (rs.drop k)) = OUT) ∧
    Hid (wx.ownsRow w.heap.size 21 1 (.slice (some ⟨gb, 0, none⟩) rs.length cap) rs.length (runeVals rs)) ∧ Hid (w.grownBy wx none))
  case atStart => exact ⟨0, _, _, [], by omega, rfl, rfl, by simp, HO.out, HOUT.out, HR.out, HG.out⟩
  case round =>
    obtain ⟨k, gc, cc, ob, hk, rfl, rfl, hol, HO', HI, HR', HG'⟩ := hrel
    clear HO HG HR HOUT
    have hne : gc ≠ gb := fun e => own_types (by decide) (e ▸ HO'.out) HR'.out
    have hgc : w.heap.size ≤ gc := (HO'.out.lt gc rfl).1
    by_cases hlt : k < rs.length
    · obtain ⟨g', rfl⟩ : ∃ g', gk = g' + 1 := ⟨gk - 1, by omega⟩
      have hzz : (k : Int) < (rs.length : Int) := by omega
      have hch : isChar ((rs.getD k 0 : Nat) : Int) := CH.out _ (by simp [List.getD, hlt])
      have hcell := runesAt_of HR'.out k hlt
      have HST := Lib.hid (mapR_step (imgT T keep rest) rs k hlt)
      have himg := imgT_range T keep rest ((rs.getD k 0 : Nat) : Int) HOK.out hr0 hr1 (by have := hch.1; omega) (by have := hch.2.2; omega)
      have cI := Lib.hid (image_any (.slice a T.length tc) T keep rest ((rs.getD k 0 : Nat) : Int) wr (HT.out.kept HG'.out))
      generalize ((rs.getD k 0 : Nat) : Int) = x at *
      clear hch
      generalize imgT T keep rest x = Y at *
      go_wp2_with fail
      refine cI.out.mono ?_
      rintro e w' ⟨rfl, rfl⟩
      by_cases h0 : 0 ≤ Y
      · have hz0 : Y ≥ 0 := h0
        have HI' := Lib.hid (show (ob ++ encodeRune Y) ++ textOf (mapR (imgT T keep rest) (rs.drop (k + 1))) = OUT by
          rw [← HI.out, HST.out, if_pos h0, List.append_assoc]
          rfl)
        have hrl := encodeRune_length Y
        have hsz := HG'.out.size
        have cA := Lib.hid (Tryd.utf8_AppendRune_plain w.heap.size (.slice (some ⟨gc, 0, none⟩) ob.length cc) ob.length (byteVals ob) Y himg.1 himg.2 wr HO'.out (by omega) hsz)
        go_wp2_with fail
        refine cA.out.mono ?_
        rintro e w2 ⟨v', rfl, hown2, o, hgr⟩
        rw [← Lib.byteCells_encodeRune, byteCells_vals, ← byteVals_app, byteVals_len, ← List.length_append] at hown2
        obtain ⟨g2, c2, rfl, -, -⟩ := own_form hown2 (by
          rintro rfl
          have := hown2.1
          rcases hown2.2 with ⟨_, h⟩ | ⟨_, _, _, h, _⟩
          · rw [List.length_append] at h; omega
          · cases h)
        have HO2 := Lib.hid hown2
        have HR2 := Lib.hid ((HR'.out.alloc o).kept hgr (.inr (by simp [Value.ownBlock]; exact fun e => hne e.symm)))
        have HG2 := Lib.hid (gjoin (galloc HG'.out o) hgr hgc)
        clear hown2 hgr HO' HR' HG' cA HI HST
        go_wp2_with fail
        go_roundg g'
        case measure => omega
        case rel => exact ⟨k + 1, g2, c2, ob ++ encodeRune Y, by omega, by first | rfl | simp, by first | rfl | rw [List.length_append], by rw [List.length_append]; omega, HO2.out, HI'.out, HR2.out, HG2.out⟩
      · have hz0 : ¬ (Y ≥ 0) := h0
        have HI' := Lib.hid (show ob ++ textOf (mapR (imgT T keep rest) (rs.drop (k + 1))) = OUT by
          rw [← HI.out, HST.out, if_neg h0])
        go_wp2_with fail
        go_roundg g'
        case measure => omega
        case rel => exact ⟨k + 1, gc, cc, ob, by omega, by first | rfl | simp, rfl, by omega, HO'.out, HI'.out, HR'.out, HG'.out⟩
    · have hzz : ¬ (k : Int) < (rs.length : Int) := by omega
      have hcv := own_string rfl HO'.out
      have HE := Lib.hid (show ob = OUT by
        rw [← HI.out, List.drop_eq_nil_of_le (by omega)]
        simp [mapR, textOf])
      clear HO' HR' HI
      go_wp2
      go_ret
      exact ⟨by rw [← HE.out]; rfl, HG'.out⟩

set_option maxHeartbeats 2000000 in
theorem proper_any (v : Value) (T : List (Int × Int)) (keep : Bool) (rest : Int) (w : World) (hT : RulesL w v T) :
    Calls Tryd.prog 14 #[v, .bool keep, .int .i32 rest] w (BoolPost w (properT T keep rest)) := by
  obtain ⟨a, cap, rfl, hl63, hcells⟩ := hT.form
  have HC := Lib.hid hcells
  clear hT hcells
  generalize hANS : properT T keep rest = ANS
  have HA := Lib.hid hANS
  clear hANS
  go_enter Tryd.func14, Tryd.ntmps14
  go_wp2
  go_loopg [7] T.length (fun g s7 wx => ∃ (k q : Nat), wx = w.drewN q ∧ k + g = T.length ∧ s7 = .int .i64 k ∧ Hid (properT (T.drop k) keep rest = ANS))
  case atStart => exact ⟨0, 0, rfl, by omega, rfl, HA.out⟩
  case round =>
    obtain ⟨k, q, rfl, hk, rfl, HI⟩ := hrel
    clear HA
    by_cases hlt : k < T.length
    · obtain ⟨g', rfl⟩ : ∃ g', gk = g' + 1 := ⟨gk - 1, by omega⟩
      have hzz : (k : Int) < (T.length : Int) := by omega
      have hk0 : (0 : Int) ≤ (k : Int) := by omega
      obtain ⟨b, off, rfl, hc1, hc2⟩ := HC.out k hlt
      have HD := Lib.hid (proper_step T keep rest k hlt)
      rw [HI.out] at HD
      generalize (T.getD k (0, 0)).2 = zb at *
      have hcell : ∀ q, (w.drewN q).cell? ⟨b, off + k * 2 + 1, none⟩ = some (.int .i32 zb) := fun q => hc2
      have cV := Lib.hid fun (W : World) => Tryd.utf8_ValidRune zb W
      clear hc1 hc2
      by_cases h0 : 0 ≤ zb
      · have hz0 : zb ≥ 0 := h0
        have hdec : decide (zb ≥ 0) = true := decide_eq_true h0
        have hpv : properV zb = Lib.validRune zb := by unfold properV; rw [decide_eq_false (by omega), Bool.false_or]
        rw [hpv] at HD
        cases hvr : Lib.validRune zb with
        | true =>
          rw [hvr] at cV HD
          have HE := Lib.hid (show properT (T.drop (k + 1)) keep rest = ANS by rw [HD.out, Bool.true_and])
          clear HD hpv hvr HI
          go_wp2_with fail
          refine (cV.out _).mono ?_
          rintro e w' ⟨rfl, rfl⟩
          go_wp2_with fail
          go_roundg g'
          case measure => omega
          case rel => exact ⟨k + 1, _, rfl, by omega, by first | rfl | simp, HE.out⟩
        | false =>
          rw [hvr] at cV HD
          have HE := Lib.hid (show ANS = false by rw [HD.out, Bool.false_and])
          clear HD hpv hvr HI
          go_wp2_with fail
          refine (cV.out _).mono ?_
          rintro e w' ⟨rfl, rfl⟩
          go_wp2_with fail
          go_ret
          exact ⟨congrArg (fun z => Ending.returned (.bool z)) HE.out.symm, gdrewN (grefl w none) _⟩
      · have hz0 : ¬ (zb ≥ 0) := h0
        have hdec : decide (zb ≥ 0) = false := decide_eq_false h0
        have hpv : properV zb = true := by unfold properV; rw [decide_eq_true (by omega), Bool.true_or]
        rw [hpv, Bool.true_and] at HD
        clear hpv
        go_wp2_with fail
        go_roundg g'
        case measure => omega
        case rel => exact ⟨k + 1, _, rfl, by omega, by first | rfl | simp, HD.out.symm⟩
    · have hzz : ¬ (k : Int) < (T.length : Int) := by omega
      have HE := Lib.hid (show (keep || properV rest) = ANS by rw [← HI.out, List.drop_eq_nil_of_le (by omega)]; unfold properT; simp)
      clear HI
      have cV := Lib.hid fun (W : World) => Tryd.utf8_ValidRune rest W
      cases keep with
      | true =>
        go_wp2_with fail
        go_ret
        exact ⟨congrArg (fun z => Ending.returned (.bool z)) HE.out, gdrewN (grefl w none) _⟩
      | false =>
        by_cases h0 : rest < 0
        · have hpv : properV rest = true := by unfold properV; rw [decide_eq_true h0, Bool.true_or]
          rw [hpv] at HE
          clear hpv
          go_wp2_with fail
          go_ret
          exact ⟨congrArg (fun z => Ending.returned (.bool z)) HE.out, gdrewN (grefl w none) _⟩
        · have hpv : properV rest = Lib.validRune rest := by unfold properV; rw [decide_eq_false h0, Bool.false_or]
          rw [hpv] at HE
          clear hpv
          go_wp2_with fail
          refine (cV.out _).mono ?_
          rintro e w' ⟨rfl, rfl⟩
          go_wp2_with fail
          go_ret
          exact ⟨congrArg (fun z => Ending.returned (.bool z)) HE.out, gdrewN (grefl w none) _⟩

end Go.Proofs.YtjcbhnnlakfmaaaDoor
