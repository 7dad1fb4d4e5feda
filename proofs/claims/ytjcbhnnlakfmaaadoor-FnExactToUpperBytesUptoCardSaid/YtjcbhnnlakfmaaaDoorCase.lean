/- The thin package's functions on cases: ToUpper, ToLower, ToTitle, MapUpper, MapLower, MapTitle return the text of the characters' cases; RuneUpper, RuneLower, RuneTitle a code point's. Written by gen_case.py. -/
import Derived.Test.YtjcbhnnlakfmaaaDoorValid
import Derived.Test.YtjcbhnnlakfmaaaDoorPlainC
import Derived.Test.YtjcbhnnlakfmaaaDoorShelf
import Derived.Shelf.Strings.CaseAny
import Derived.Shelf.Strings.MapGrows
import Derived.Test.YtjcbhnnlakfmaaaDoorTurn
import Derived.Shelf.Spec.ToTitle
namespace Go.Proofs.YtjcbhnnlakfmaaaDoor
open Go.Shelf Go.RowKit Go.Lib Go.Ftx

def CaseT (w : World) : Prop := CaseVar 6 caseA w
theorem CaseT.grown {w w' : World} (h : CaseT w) (hg : w.grownBy w' none) : CaseT w' := CaseVar_below h (gbelow hg)
/-- the tables that the functions on cases read -/
def CTabs (w : World) : Prop := CaseT w ∧ Utf8T w
theorem CTabs.grown {w w' : World} (h : CTabs w) (hg : w.grownBy w' none) : CTabs w' := ⟨h.1.grown hg, h.2.grown hg⟩
theorem titleW_U (r : Int) : Lib.toTitleW caseA r = toTitleU r := by unfold Lib.toTitleW toTitleU; rw [toW_caseA 2 (by omega)]
/-- a function on code points that a Map may take -/
theorem pays_of {g : Nat} {f : Int → Int} {w : World} (h : ∀ (W : World) (x : Int), CaseT W → Calls Tryd.prog g #[.int .i32 x] W fun e w' => e = .returned (.int .i32 (f x)) ∧ ∃ q, w' = W.drewN q) (hT : CaseT w) : MapGrows Tryd.prog g #[] f w :=
  fun W x _ hb => (h W (x : Int) (CaseVar_below hT hb)).mono fun _ _ ⟨he, q, hq⟩ => ⟨he, hq ▸ below_drewNm W q⟩
theorem turns_range {f : Int → Int} (hs : ∀ x : Nat, x ≤ 1114111 → 0 ≤ f x ∧ f x ≤ 2147483647) (x : Nat) (hx : x ≤ 1114111) : -2147483648 ≤ f x ∧ f x ≤ 2147483647 := by
  have := hs x hx
  omega
theorem titleU_range (x : Nat) (hx : x ≤ 1114111) : 0 ≤ toTitleU x ∧ toTitleU x ≤ 2147483647 := by
  unfold toTitleU
  split
  · split <;> omega
  · exact toR_range 2 (by omega) x (by omega) (by omega)

theorem uniUpper_any (w : World) (x : Int) (hT : CaseT w) : Calls Tryd.prog 61 #[.int .i32 x] w fun e w' => e = .returned (.int .i32 (toUpperU x)) ∧ ∃ q, w' = w.drewN q := Tryd.unicode_ToUpper_laid x w hT

theorem runeUpper_any (w : World) (x : Int) (hT : CaseT w) : Calls Tryd.prog 31 #[.int .i32 x] w fun e w' => e = .returned (.int .i32 (toUpperU x)) ∧ ∃ q, w' = w.drewN q := by
  have cU := Lib.hid (uniUpper_any w x hT)
  clear hT
  generalize toUpperU x = y at *
  go_enter Tryd.func31, Tryd.ntmps31
  go_wp2_with fail
  refine cU.out.mono ?_
  rintro e w' ⟨rfl, q, rfl⟩
  go_wp2_with fail
  go_ret
  exact ⟨rfl, q, rfl⟩

theorem strUpper_any (s : ByteArray) (w : World) (hs : s.size < 35184372088832) (hT : CTabs w) : Calls Tryd.prog 53 #[.string s] w (StrPost w (mapD toUpperU s.data.toList)) :=
  (Tryd.strings_ToUpper_any s w hs hT.1 hT.2).mono fun _ _ ⟨he, hb⟩ => ⟨he, belowg hb⟩

theorem implUpper_any (s : ByteArray) (w : World) (hs : s.size < 35184372088832) (hT : CTabs w) : Calls Tryd.prog 21 #[.string s] w (StrPost w (mapD toUpperU s.data.toList)) := by
  have cM := Lib.hid (strUpper_any s w hs hT)
  generalize mapD toUpperU s.data.toList = OUT at *
  clear hT
  go_enter Tryd.func21, Tryd.ntmps21
  go_wp2_with fail
  refine cM.out.mono ?_
  rintro e w' ⟨rfl, hb⟩
  have HB := Lib.hid hb
  clear hb
  go_wp2_with fail
  go_ret
  exact ⟨rfl, HB.out⟩


theorem uniLower_any (w : World) (x : Int) (hT : CaseT w) : Calls Tryd.prog 60 #[.int .i32 x] w fun e w' => e = .returned (.int .i32 (toLowerU x)) ∧ ∃ q, w' = w.drewN q := Tryd.unicode_ToLower_laid x w hT

theorem runeLower_any (w : World) (x : Int) (hT : CaseT w) : Calls Tryd.prog 30 #[.int .i32 x] w fun e w' => e = .returned (.int .i32 (toLowerU x)) ∧ ∃ q, w' = w.drewN q := by
  have cU := Lib.hid (uniLower_any w x hT)
  clear hT
  generalize toLowerU x = y at *
  go_enter Tryd.func30, Tryd.ntmps30
  go_wp2_with fail
  refine cU.out.mono ?_
  rintro e w' ⟨rfl, q, rfl⟩
  go_wp2_with fail
  go_ret
  exact ⟨rfl, q, rfl⟩

theorem strLower_any (s : ByteArray) (w : World) (hs : s.size < 35184372088832) (hT : CTabs w) : Calls Tryd.prog 55 #[.string s] w (StrPost w (mapD toLowerU s.data.toList)) :=
  (Tryd.strings_ToLower_any s w hs hT.1 hT.2).mono fun _ _ ⟨he, hb⟩ => ⟨he, belowg hb⟩

theorem implLower_any (s : ByteArray) (w : World) (hs : s.size < 35184372088832) (hT : CTabs w) : Calls Tryd.prog 23 #[.string s] w (StrPost w (mapD toLowerU s.data.toList)) := by
  have cM := Lib.hid (strLower_any s w hs hT)
  generalize mapD toLowerU s.data.toList = OUT at *
  clear hT
  go_enter Tryd.func23, Tryd.ntmps23
  go_wp2_with fail
  refine cM.out.mono ?_
  rintro e w' ⟨rfl, hb⟩
  have HB := Lib.hid hb
  clear hb
  go_wp2_with fail
  go_ret
  exact ⟨rfl, HB.out⟩


theorem uniTitle_any (w : World) (x : Int) (hT : CaseT w) : Calls Tryd.prog 59 #[.int .i32 x] w fun e w' => e = .returned (.int .i32 (toTitleU x)) ∧ ∃ q, w' = w.drewN q := by have h := Any7.unicode_ToTitle_laid Tryd.laysToTitle Tryd.lays262 rfl x w hT; rw [titleW_U] at h; exact h

theorem runeTitle_any (w : World) (x : Int) (hT : CaseT w) : Calls Tryd.prog 29 #[.int .i32 x] w fun e w' => e = .returned (.int .i32 (toTitleU x)) ∧ ∃ q, w' = w.drewN q := by
  have cU := Lib.hid (uniTitle_any w x hT)
  clear hT
  generalize toTitleU x = y at *
  go_enter Tryd.func29, Tryd.ntmps29
  go_wp2_with fail
  refine cU.out.mono ?_
  rintro e w' ⟨rfl, q, rfl⟩
  go_wp2_with fail
  go_ret
  exact ⟨rfl, q, rfl⟩

theorem strTitle_any (s : ByteArray) (w : World) (hs : s.size < 35184372088832) (hT : CTabs w) : Calls Tryd.prog 57 #[.string s] w (StrPost w (mapD toTitleU s.data.toList)) := by
  have cM := Lib.hid (Tryd.strings_Map_grows 59 #[] (enters_of Tryd.func59 (by kernel_rfl) rfl) toTitleU s w hs (pays_of (fun W x h => uniTitle_any W x h) hT.1) (turns_range titleU_range) hT.2)
  generalize mapD toTitleU s.data.toList = OUT at *
  clear hT
  go_enter Tryd.func57, Tryd.ntmps57
  go_wp2_with fail
  refine cM.out.mono ?_
  rintro e w' ⟨rfl, hb⟩
  have HB := Lib.hid (belowg hb)
  clear hb
  go_wp2_with fail
  go_ret
  exact ⟨rfl, HB.out⟩

theorem implTitle_any (s : ByteArray) (w : World) (hs : s.size < 35184372088832) (hT : CTabs w) : Calls Tryd.prog 25 #[.string s] w (StrPost w (mapD toTitleU s.data.toList)) := by
  have cM := Lib.hid (strTitle_any s w hs hT)
  generalize mapD toTitleU s.data.toList = OUT at *
  clear hT
  go_enter Tryd.func25, Tryd.ntmps25
  go_wp2_with fail
  refine cM.out.mono ?_
  rintro e w' ⟨rfl, hb⟩
  have HB := Lib.hid hb
  clear hb
  go_wp2_with fail
  go_ret
  exact ⟨rfl, HB.out⟩


theorem implUpper_is (s : ByteArray) (w : World) (o : ByteArray) (hs : s.size < 35184372088832) (hT : CTabs w) (ho : mapD toUpperU s.data.toList = o.data.toList) : Calls Tryd.prog 21 #[.string s] w (fun e w' => e = .returned (.string o) ∧ w.grownBy w' none) := by
  have h := implUpper_any s w hs hT
  rw [ho] at h
  exact h


theorem turnedUpper_is (s : ByteArray) (w : World) (o : ByteArray) (hs : s.size ≤ 70368744177664) (hT : CTabs w) (ho : mapD toUpperU s.data.toList = o.data.toList) : Calls Tryd.prog 28 #[.string s, .func (.func 31) #[] #[]] w (fun e w' => e = .returned (.string o) ∧ w.grownBy w' none) := by
  have h := turned_any s w hs toUpperU 31 (enters_of Tryd.func31 (by kernel_rfl) rfl) (fun x W _ hg => runeUpper_any W x (hT.1.grown hg))
  rw [← turns_map upper_turns, ho] at h
  exact h

theorem implLower_is (s : ByteArray) (w : World) (o : ByteArray) (hs : s.size < 35184372088832) (hT : CTabs w) (ho : mapD toLowerU s.data.toList = o.data.toList) : Calls Tryd.prog 23 #[.string s] w (fun e w' => e = .returned (.string o) ∧ w.grownBy w' none) := by
  have h := implLower_any s w hs hT
  rw [ho] at h
  exact h


theorem turnedLower_is (s : ByteArray) (w : World) (o : ByteArray) (hs : s.size ≤ 70368744177664) (hT : CTabs w) (ho : mapD toLowerU s.data.toList = o.data.toList) : Calls Tryd.prog 28 #[.string s, .func (.func 30) #[] #[]] w (fun e w' => e = .returned (.string o) ∧ w.grownBy w' none) := by
  have h := turned_any s w hs toLowerU 30 (enters_of Tryd.func30 (by kernel_rfl) rfl) (fun x W _ hg => runeLower_any W x (hT.1.grown hg))
  rw [← turns_map lower_turns, ho] at h
  exact h

theorem implTitle_is (s : ByteArray) (w : World) (o : ByteArray) (hs : s.size < 35184372088832) (hT : CTabs w) (ho : mapD toTitleU s.data.toList = o.data.toList) : Calls Tryd.prog 25 #[.string s] w (fun e w' => e = .returned (.string o) ∧ w.grownBy w' none) := by
  have h := implTitle_any s w hs hT
  rw [ho] at h
  exact h


theorem turnedTitle_is (s : ByteArray) (w : World) (o : ByteArray) (hs : s.size ≤ 70368744177664) (hT : CTabs w) (ho : mapD toTitleU s.data.toList = o.data.toList) : Calls Tryd.prog 28 #[.string s, .func (.func 29) #[] #[]] w (fun e w' => e = .returned (.string o) ∧ w.grownBy w' none) := by
  have h := turned_any s w hs toTitleU 29 (enters_of Tryd.func29 (by kernel_rfl) rfl) (fun x W _ hg => runeTitle_any W x (hT.1.grown hg))
  rw [← turns_map title_turns, ho] at h
  exact h

end Go.Proofs.YtjcbhnnlakfmaaaDoor
