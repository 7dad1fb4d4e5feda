/- laws.kin returns whether SimpleFold leads from one code point to the other within eight steps; spec.Lower and spec.Upper turn letters of one byte. -/
import Derived.Test.YtgljpgnmlpglnaaDoorKinP
import Derived.Test.YtgljpgnmlpglnaaDoorFoldW
import Derived.Test.YtgljpgnmlpglnaaDoorWorlds
namespace Go.Proofs.YtgljpgnmlpglnaaDoor
open Go.RowKit Go.Lib Go.Ftx

theorem FoldTabs.grown {w w' : World} (h : FoldTabs w) (hg : w.grownBy w' none) : FoldTabs w' := FoldTabs_below h (gbelow hg)
theorem FoldTabs.drewN {w : World} (h : FoldTabs w) (q : Nat) : FoldTabs (w.drewN q) := h

set_option maxHeartbeats 1000000 in
theorem kin_any (a b : Int) (w : World) (hT : FoldTabs w) :
    Calls Tryd.prog 33 #[.int .i32 a, .int .i32 b] w fun e w' => e = .returned (.bool (kinB a b)) ∧ ∃ q, w' = w.drewN q := by
  have HT := Lib.hid hT
  clear hT
  go_enter Tryd.func33, Tryd.ntmps33
  go_wp2_with fail
  go_loopg [5, 6] 8 (fun g s5 s6 wx => ∃ k : Nat, ∃ q : Nat, k + g = 8 ∧ s5 = .int .i32 (itF k a) ∧ s6 = .int .i64 k ∧ (∀ j, j < k → itF j a ≠ b) ∧ wx = w.drewN q)
  case atStart => exact ⟨0, 0, rfl, rfl, rfl, fun j hj => absurd hj (Nat.not_lt_zero _), rfl⟩
  case round =>
    obtain ⟨k, q, hk, rfl, rfl, hne, rfl⟩ := hrel
    have HNE := Lib.hid hne
    clear hne
    by_cases hk8 : k < 8
    · have hz : (k : Int) < 8 := by omega
      obtain ⟨g', rfl⟩ : ∃ g', gk = g' + 1 := ⟨gk - 1, by omega⟩
      have cF := Lib.hid (implFold_any (itF k a) (w.drewN q) (HT.out.drewN q))
      have hnext : foldU (itF k a) = itF (k + 1) a := rfl
      by_cases hb : itF k a = b
      · have hbb : (itF k a == b) = true := by simpa using hb
        have hres := Lib.hid (kinB_true hk8 hb)
        generalize itF k a = x at *
        clear hb hnext
        go_wp2_with fail
        go_ret
        exact ⟨congrArg (fun z => Ending.returned (.bool z)) hres.out.symm, q, rfl⟩
      · have hbb : (itF k a == b) = false := by simpa using hb
        have hne' : ∀ j, j < k + 1 → itF j a ≠ b := fun j hj => by
          by_cases e : j = k
          · rw [e]; exact hb
          · exact HNE.out j (by omega)
        have HNE' := Lib.hid hne'
        rw [hnext] at cF
        generalize hy : itF (k + 1) a = y at *
        have HY := Lib.hid hy
        clear hy
        generalize itF k a = x at *
        clear hb hne' HNE hnext
        go_wp2_with fail
        refine cF.out.mono ?_
        rintro e w' ⟨rfl, q2, rfl⟩
        go_wp2_with fail
        go_roundg g'
        case measure => omega
        case rel => exact ⟨k + 1, _, by omega, by rw [HY.out], by go_num, HNE'.out, rfl⟩
    · have hz : ¬ (k : Int) < 8 := by omega
      have hres := Lib.hid (kinB_false (a := a) (b := b) fun j hj => HNE.out j (by omega))
      go_wp2_with fail
      go_ret
      exact ⟨congrArg (fun z => Ending.returned (.bool z)) hres.out.symm, q, rfl⟩

end Go.Proofs.YtgljpgnmlpglnaaDoor
