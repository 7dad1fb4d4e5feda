/- The exact laws on Map: for every table and every text within the bound the call returns true, and nothing that was there changes. Written by gen_lawmap.py. -/
import Derived.Test.YtdibpklbkcmhiaaDoorMapW
import Derived.Test.YtdibpklbkcmhiaaDoorOpenT
import Derived.RegionCalls
import Derived.BigRegion
namespace Go.Proofs.YtdibpklbkcmhiaaDoor
open Go.Shelf Go.RowKit Go.Lib Go.Ftx
set_option maxRecDepth 100000 in
theorem nil_string (w : World) (n c : Nat) : (convert 23 9 (.slice none n c)).run Tryd.prog w = .ok (.string ⟨#[]⟩) w := by
  have : (convert 23 9 (.slice none n c)).run Tryd.prog w = .ok (.string .empty) w := by rfl
  exact this
theorem bytes_str {w : World} {v : Value} {l : List UInt8} (h : BytesL w v l) : (convert 23 9 v).run Tryd.prog w = .ok (.string ⟨l.toArray⟩) w := by
  rcases h with ⟨a, c, rfl, rfl⟩ | ⟨b, o, c, rfl, hlc, hc63, hc⟩
  · cases a with
    | none => exact nil_string w 0 c
    | some x => exact empty_string w x c
  · refine run_convert_bytes_back (P := Tryd.prog) w 23 9 5 ⟨b, o, none⟩ c l Tryd.underlying23 Tryd.underlying5 Tryd.underlying9 (fun j hj => ?_)
    rw [Addr.add_lit, hc j hj]
    simp [List.getD, hj]
theorem ex_outM (m : List UInt8) : ∃ o : ByteArray, m = o.data.toList := ⟨⟨m.toArray⟩, by simp⟩
theorem specRules_is (tv : Value) (T : List (Int × Int)) (w : World) (hT : RulesL w tv T) (hn : T.length ≤ 8000000) : Calls Tryd.prog 14 #[tv] w fun e w' => ∃ v', e = .returned v' ∧ RulesL w' v' T ∧ w.grownBy w' none :=
  (specRules_any tv T w hT hn).mono fun _ _ ⟨v', he, ho, _, hg'⟩ => ⟨v', he, rules_of_own ho, hg'⟩
theorem implMap_is (v : Value) (T : List (Int × Int)) (keep : Bool) (rest : Int) (s o : ByteArray) (w : World) (hT : RulesL w v T) (hok : okT T) (hr : -2147483648 ≤ rest ∧ rest ≤ 2147483647) (hs : s.size < 35184372088832) (hU : Utf8T w) (ho : mapD (imgT T keep rest) s.data.toList = o.data.toList) :
    Calls Tryd.prog 17 #[v, .bool keep, .int .i32 rest, .string s] w (fun e w' => e = .returned (.string o) ∧ w.grownBy w' none) := by
  have h := implMap_any v T keep rest s w hT hok hr.1 hr.2 hs hU
  rw [ho] at h
  exact h
theorem specMap_is (v : Value) (T : List (Int × Int)) (keep : Bool) (rest : Int) (s o : ByteArray) (w : World) (hT : RulesL w v T) (hok : okT T) (hr : -2147483648 ≤ rest ∧ rest ≤ 2147483647) (hs : s.size < 35184372088000) (ho : mapD (imgT T keep rest) s.data.toList = o.data.toList) :
    Calls Tryd.prog 13 #[v, .bool keep, .int .i32 rest, .string s] w (fun e w' => e = .returned (.string o) ∧ w.grownBy w' none) := by
  have h := specMap_any v T keep rest s w hT hok hr.1 hr.2 hs
  rw [ho] at h
  exact h
theorem proper_is (v : Value) (T : List (Int × Int)) (keep : Bool) (rest : Int) (w : World) (b : Bool) (hT : RulesL w v T) (h : properT T keep rest = b) : Calls Tryd.prog 16 #[v, .bool keep, .int .i32 rest] w (BoolPost w b) := h ▸ proper_any v T keep rest w hT
theorem valid_isM (s : ByteArray) (w : World) (b : Bool) (hs : s.size ≤ 9223372036854775807) (hU : Utf8T w) (h : Lib.validD s.data.toList = b) : Calls Tryd.prog 15 #[.string s] w (BoolPost w b) := h ▸ valid_any s w hs hU

set_option maxHeartbeats 2000000 in
theorem exMap_walk (w : World) (T : List (Int × Int)) (tv : Value) (hTT : RulesL w tv T ∧ okT T) (keep : Bool) (rest : Int) (hr : (Lit.int .i32 rest).wf = true) (s : ByteArray) (_ : s.size ≤ maxLen) (hT : Utf8T w) (hn : T.length ≤ 1048576) (hs : s.size ≤ 1048576) :
    Calls Tryd.prog 5 #[tv, .bool keep, .int .i32 rest, .string s] w (TruePost w) := by
  have HRR := Lib.hid (wf_i32 hr)
  have HR0 := Lib.hid hTT.1
  have HOK := Lib.hid hTT.2
  have HT := Lib.hid hT
  obtain ⟨ta, tc, rfl, -, -⟩ := hTT.1.form
  obtain ⟨o, ho⟩ := ex_outM (mapD (imgT T keep rest) s.data.toList)
  have HO := Lib.hid ho
  clear ho hTT hT hr
  go_enter Tryd.func5, Tryd.ntmps5
  go_wp2_with fail
  refine (specRules_is _ T _ HR0.out (by omega)).mono ?_
  rintro e w1 ⟨v2, rfl, hR2, hg1⟩
  have HR2 := Lib.hid hR2
  clear hR2
  have G1 := Lib.hid hg1
  clear hg1
  go_wp2_with fail
  refine (implMap_is _ T keep rest s o _ (HR0.out.kept G1.out) HOK.out HRR.out (by omega) (HT.out.grown G1.out) HO.out).mono ?_
  rintro e w2 ⟨rfl, hg2⟩
  have HR2 := Lib.hid (HR2.out.kept hg2)
  have G2 := Lib.hid (gtrans G1.out hg2)
  clear hg2 G1
  go_wp2_with fail
  refine (specMap_is _ T keep rest s o _ HR2.out HOK.out HRR.out (by omega) HO.out).mono ?_
  rintro e w3 ⟨rfl, hg3⟩
  have G3 := Lib.hid (gtrans G2.out hg3)
  clear hg3 G2
  go_wp2_with fail
  go_ret
  exact ⟨rfl, G3.out⟩

set_option maxHeartbeats 2000000 in
theorem exMapValid_walk (w : World) (T : List (Int × Int)) (tv : Value) (hTT : RulesL w tv T ∧ okT T) (keep : Bool) (rest : Int) (hr : (Lit.int .i32 rest).wf = true) (s : ByteArray) (_ : s.size ≤ maxLen) (hT : Utf8T w) (hn : T.length ≤ 1048576) (hs : s.size ≤ 1048576) :
    Calls Tryd.prog 7 #[tv, .bool keep, .int .i32 rest, .string s] w (TruePost w) := by
  have HRR := Lib.hid (wf_i32 hr)
  have HR0 := Lib.hid hTT.1
  have HOK := Lib.hid hTT.2
  have HT := Lib.hid hT
  obtain ⟨ta, tc, rfl, -, -⟩ := hTT.1.form
  obtain ⟨o, ho⟩ := ex_outM (mapD (imgT T keep rest) s.data.toList)
  have HO := Lib.hid ho
  clear ho hTT hT hr
  go_enter Tryd.func7, Tryd.ntmps7
  go_wp2_with fail
  refine (specRules_is _ T _ HR0.out (by omega)).mono ?_
  rintro e w1 ⟨v2, rfl, hR2, hg1⟩
  have HR2 := Lib.hid hR2
  clear hR2
  have G1 := Lib.hid hg1
  clear hg1
  cases hv : Lib.validD s.data.toList with
  | false =>
    go_wp2_with fail
    refine (valid_isM s _ false (by omega) (HT.out.grown G1.out) hv).mono ?_
    rintro e w2 ⟨rfl, hg2⟩
    have HR2 := Lib.hid (HR2.out.kept hg2)
    have G2 := Lib.hid (gtrans G1.out hg2)
    clear hg2 G1
    go_wp2_with fail
    go_ret
    exact ⟨rfl, G2.out⟩
  | true =>
    go_wp2_with fail
    refine (valid_isM s _ true (by omega) (HT.out.grown G1.out) hv).mono ?_
    rintro e w2 ⟨rfl, hg2⟩
    have HR2 := Lib.hid (HR2.out.kept hg2)
    have G2 := Lib.hid (gtrans G1.out hg2)
    clear hg2 G1
    cases hp : properT T keep rest with
    | false =>
      go_wp2_with fail
      refine (proper_is _ T keep rest _ false HR2.out hp).mono ?_
      rintro e w3 ⟨rfl, hg3⟩
      have HR2 := Lib.hid (HR2.out.kept hg3)
      have G3 := Lib.hid (gtrans G2.out hg3)
      clear hg3 G2
      go_wp2_with fail
      go_ret
      exact ⟨rfl, G3.out⟩
    | true =>
      go_wp2_with fail
      refine (proper_is _ T keep rest _ true HR2.out hp).mono ?_
      rintro e w3 ⟨rfl, hg3⟩
      have HR2 := Lib.hid (HR2.out.kept hg3)
      have G3 := Lib.hid (gtrans G2.out hg3)
      clear hg3 G2
      go_wp2_with fail
      refine (implMap_is _ T keep rest s o _ (HR0.out.kept G3.out) HOK.out HRR.out (by omega) (HT.out.grown G3.out) HO.out).mono ?_
      rintro e w4 ⟨rfl, hg4⟩
      have HR2 := Lib.hid (HR2.out.kept hg4)
      have G4 := Lib.hid (gtrans G3.out hg4)
      clear hg4 G3
      go_wp2_with fail
      refine (specMap_is _ T keep rest s o _ HR2.out HOK.out HRR.out (by omega) HO.out).mono ?_
      rintro e w5 ⟨rfl, hg5⟩
      have G5 := Lib.hid (gtrans G4.out hg5)
      clear hg5 G4
      go_wp2_with fail
      go_ret
      exact ⟨rfl, G5.out⟩

set_option maxHeartbeats 8000000 in
theorem exMapBytes_walk (w : World) (T : List (Int × Int)) (tv : Value) (hTT : RulesL w tv T ∧ okT T) (keep : Bool) (rest : Int) (hr : (Lit.int .i32 rest).wf = true) (l : List UInt8) (sv : Value) (hB : BytesL w sv l) (hU : Utf8T w) (hn : T.length ≤ 1048576) (hs : l.length ≤ 1048576) :
    Calls Tryd.prog 3 #[tv, .bool keep, .int .i32 rest, sv] w (TruePost w) := by
  obtain ⟨hr0, hr1⟩ := wf_i32 hr
  obtain ⟨hT, hok⟩ := hTT
  have cMB : ∀ W, w.grownBy W none → Calls Tryd.prog 12 #[tv, .bool keep, .int .i32 rest, sv] W (NewBytes W (mapD (imgT T keep rest) l)) := fun W hg =>
    implMapB_any tv T keep rest sv l W (hT.kept hg) hok hr0 hr1 (hB.kept hg) (by omega) (hU.grown hg)
  have cSR : ∀ W, w.grownBy W none → Calls Tryd.prog 14 #[tv] W fun e w' => ∃ v', e = .returned v' ∧ RulesL w' v' T ∧ W.grownBy w' none := fun W hg => specRules_is tv T W (hT.kept hg) (by omega)
  have hz : (⟨l.toArray⟩ : ByteArray).size = l.length := by show l.toArray.size = _; simp
  have cSM : ∀ W v', RulesL W v' T → Calls Tryd.prog 13 #[v', .bool keep, .int .i32 rest, .string ⟨l.toArray⟩] W (StrPost W (mapD (imgT T keep rest) l)) := fun W v' hR =>
    specMap_any v' T keep rest ⟨l.toArray⟩ W hR hok hr0 hr1 (by rw [hz]; omega)
  have cv : ∀ W, w.grownBy W none → (convert 23 9 sv).run Tryd.prog W = .ok (.string ⟨l.toArray⟩) W := fun W hg => bytes_str (hB.kept hg)
  obtain ⟨ta, tc, rfl, -, -⟩ := hT.form
  obtain ⟨a2, n2, c2, rfl⟩ : ∃ a n c, sv = .slice a n c := by
    rcases hB with ⟨a, c, rfl, -⟩ | ⟨b, o, c, rfl, -⟩
    · exact ⟨_, _, _, rfl⟩
    · exact ⟨_, _, _, rfl⟩
  have CMB := Lib.hid cMB
  have CSR := Lib.hid cSR
  have CSM := Lib.hid cSM
  have CV := Lib.hid cv
  clear cMB cSR cSM cv hT hB hU hok hz hs hr0 hr1 hn hr
  generalize mapD (imgT T keep rest) l = OUT at *
  generalize T.length = tn at *
  generalize (⟨l.toArray⟩ : ByteArray) = S at *
  have G0 : w.grownBy w.drew none := gdrew (grefl w none)
  have CS0 := CV.out _ G0
  go_enter Tryd.func3, Tryd.ntmps3
  go_wp2_with fail
  go_region_with (first
    | (go_at_call 12; refine (CMB.out _ G0).mono ?_; rintro e W1 ⟨g1, c1, rfl, hO1, hg1⟩; have G1 := gtrans G0 hg1; have CV1 := own_string rfl hO1; have CS1 := CV.out _ G1)
    | (go_at_call 14; refine (CSR.out _ G1).mono ?_; rintro e W2 ⟨v2, rfl, hR2, hg2⟩; have G2 := gtrans G1 hg2; have hO2 := hO1.kept hg2 (.inr (by simp [Value.ownBlock])); have CV2 := own_string rfl hO2; have CS2 := CV.out _ G2)
    | (go_at_call 13; refine (CSM.out _ _ hR2).mono ?_; rintro e W3 ⟨rfl, hg3⟩; have G3 := gtrans G2 hg3; have hO3 := hO2.kept hg3 (.inr (by simp [Value.ownBlock])); have CV3 := own_string rfl hO3))
  all_goals (go_wp2_with fail; go_ret; exact ⟨by first | rfl | simp, G3⟩)

end Go.Proofs.YtdibpklbkcmhiaaDoor
