/- The exact laws on EqualFold of slices of bytes. Written by gen_laweq4.py. -/
import Derived.Test.YtgljpgnmlpglnaaDoorEqB
import Derived.Test.YtgljpgnmlpglnaaDoorLawEq
import Derived.RegionCalls
import Derived.BigRegion
namespace Go.Proofs.YtgljpgnmlpglnaaDoor
open Go.Shelf Go.RowKit Go.Lib Go.Ftx
set_option maxRecDepth 100000 in
theorem nil_string (w : World) (n c : Nat) : (convert 22 9 (.slice none n c)).run Tryd.prog w = .ok (.string ⟨#[]⟩) w := by
  have : (convert 22 9 (.slice none n c)).run Tryd.prog w = .ok (.string .empty) w := by rfl
  exact this
theorem bytes_str {w : World} {v : Value} {l : List UInt8} (h : BytesL w v l) : (convert 22 9 v).run Tryd.prog w = .ok (.string ⟨l.toArray⟩) w := by
  rcases h with ⟨a, c, rfl, rfl⟩ | ⟨b, o, c, rfl, hlc, hc63, hc⟩
  · cases a with
    | none => exact nil_string w 0 c
    | some x => exact empty_string w x c
  · refine run_convert_bytes_back (P := Tryd.prog) w 22 9 5 ⟨b, o, none⟩ c l Tryd.underlying22 Tryd.underlying5 Tryd.underlying9 (fun j hj => ?_)
    rw [Addr.add_lit, hc j hj]
    simp [List.getD, hj]

set_option maxHeartbeats 8000000 in
theorem exEqB_walk (w : World) (l : List UInt8) (sv : Value) (hB1 : BytesL w sv l) (m : List UInt8) (tv : Value) (hB2 : BytesL w tv m) (hT : EqTabs w) (hl : l.length ≤ 1048576) (hm : m.length ≤ 1048576) :
    Calls Tryd.prog 12 #[sv, tv] w (TruePost w) := by
  have hz1 : (⟨l.toArray⟩ : ByteArray).size = l.length := by show l.toArray.size = _; simp
  have hz2 : (⟨m.toArray⟩ : ByteArray).size = m.length := by show m.toArray.size = _; simp
  have hcl := chars_length l
  have cE : ∀ W, w.grownBy W none → Calls Tryd.prog 22 #[sv, tv] W (BoolPost W (kinL (chars l) (chars m))) := fun W hg => implEqB_any l m sv tv W (by omega) (by omega) (hB1.kept hg) (hB2.kept hg) (hT.1.grown hg) (hT.2.grown hg)
  have cC1 : ∀ W, Calls Tryd.prog 19 #[.string ⟨l.toArray⟩] W (CharsPost W (chars l)) := fun W => chars_any ⟨l.toArray⟩ W (by rw [hz1]; omega)
  have cC2 : ∀ W, Calls Tryd.prog 19 #[.string ⟨m.toArray⟩] W (CharsPost W (chars m)) := fun W => chars_any ⟨m.toArray⟩ W (by rw [hz2]; omega)
  have cK : ∀ W g1 g2 c1 c2, w.grownBy W none → RunesAt W g1 (chars l) → RunesAt W g2 (chars m) → Calls Tryd.prog 21 #[.slice (some ⟨g1, 0, none⟩) (chars l).length c1, .slice (some ⟨g2, 0, none⟩) (chars m).length c2] W (BoolPost W (kinL (chars l) (chars m))) := fun W g1 g2 c1 c2 hg h1 h2 =>
    kinAll_any _ _ g1 g2 c1 c2 W h1 h2 (by omega) (hT.1.grown hg)
  have cv1 : ∀ W, w.grownBy W none → (convert 22 9 sv).run Tryd.prog W = .ok (.string ⟨l.toArray⟩) W := fun W hg => bytes_str (hB1.kept hg)
  have cv2 : ∀ W, w.grownBy W none → (convert 22 9 tv).run Tryd.prog W = .ok (.string ⟨m.toArray⟩) W := fun W hg => bytes_str (hB2.kept hg)
  obtain ⟨a1, n1, c1, rfl⟩ : ∃ a n c, sv = .slice a n c := by
    rcases hB1 with ⟨a, c, rfl, -⟩ | ⟨b, o, c, rfl, -⟩
    · exact ⟨_, _, _, rfl⟩
    · exact ⟨_, _, _, rfl⟩
  obtain ⟨a2, n2, c2, rfl⟩ : ∃ a n c, tv = .slice a n c := by
    rcases hB2 with ⟨a, c, rfl, -⟩ | ⟨b, o, c, rfl, -⟩
    · exact ⟨_, _, _, rfl⟩
    · exact ⟨_, _, _, rfl⟩
  have CE := Lib.hid cE
  have CC1 := Lib.hid cC1
  have CC2 := Lib.hid cC2
  have CK := Lib.hid cK
  have CS := Lib.hid cv1
  have CT := Lib.hid cv2
  clear cE cC1 cC2 cK cv1 cv2 hT hB1 hB2 hz1 hz2 hl hm hcl
  generalize kinL (chars l) (chars m) = b at *
  generalize chars l = rs at *
  generalize chars m = ts at *
  generalize (⟨l.toArray⟩ : ByteArray) = S at *
  generalize (⟨m.toArray⟩ : ByteArray) = T at *
  have G0 : w.grownBy w.drew none := gdrew (grefl w none)
  have CS0 := CS.out _ G0
  have CT0 := CT.out _ G0
  have hbb : (b == b) = true := by simp
  go_enter Tryd.func12, Tryd.ntmps12
  go_wp2_with fail
  go_region_with (first
    | (go_at_call 22; refine (CE.out _ G0).mono ?_; rintro e V1 ⟨rfl, hv1⟩; have J1 := gtrans G0 hv1; have CSa := CS.out _ J1; have CTa := CT.out _ J1)
    | (go_at_call 19; refine (CC1.out _).mono ?_; rintro e V2 ⟨g1, d1, rfl, hO2, hv2⟩; have J2 := gtrans J1 hv2; have CTb := CT.out _ J2; have R1 := runesAt_of hO2)
    | (go_at_call 19; refine (CC2.out _).mono ?_; rintro e V3 ⟨g2, d2, rfl, hO3, hv3⟩; have J3 := gtrans J2 hv3; have R2 := runesAt_of hO3; have R1' := R1.grown hv3)
    | (go_at_call 21; refine (CK.out _ _ _ _ _ J3 R1' R2).mono ?_; rintro e V4 ⟨rfl, hv4⟩; have J4 := gtrans J3 hv4))
  all_goals (go_wp2_with fail; go_ret; exact ⟨by first | rfl | simp, J4⟩)

end Go.Proofs.YtgljpgnmlpglnaaDoor
