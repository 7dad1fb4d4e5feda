/- spec.Lower and spec.Upper turn letters of one byte. -/
import Derived.Test.YtgljpgnmlpglnaaDoorKinP
import Derived.Test.YtgljpgnmlpglnaaDoorProg
import Derived.Test.YtgljpgnmlpglnaaDoorWorlds
import Derived.WalkKit
import Derived.Lib.Hide
namespace Go.Proofs.YtgljpgnmlpglnaaDoor
open Go.RowKit Go.Lib Go.Ftx

theorem lower_any (r : Int) (w : World) (h0 : -2147483648 ≤ r) (h1 : r ≤ 2147483647) : Calls Tryd.prog 30 #[.int .i32 r] w fun e w' => e = .returned (.int .i32 (lowerZ r)) ∧ w = w' := by
  unfold lowerZ
  by_cases a : 65 ≤ r
  · by_cases b : r ≤ 90
    · rw [if_pos ⟨a, b⟩]
      go_enter Tryd.func30, Tryd.ntmps30
      go_wp2
      go_ret
      exact ⟨rfl, rfl⟩
    · rw [if_neg (by omega)]
      go_enter Tryd.func30, Tryd.ntmps30
      go_wp2
      go_ret
      exact ⟨rfl, rfl⟩
  · rw [if_neg (by omega)]
    go_enter Tryd.func30, Tryd.ntmps30
    go_wp2
    go_ret
    exact ⟨rfl, rfl⟩
end Go.Proofs.YtgljpgnmlpglnaaDoor
