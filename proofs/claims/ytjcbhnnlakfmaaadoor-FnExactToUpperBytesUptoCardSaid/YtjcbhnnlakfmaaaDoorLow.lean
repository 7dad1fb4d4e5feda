/- spec.Lower and spec.Upper turn letters of one byte. -/
import Derived.Test.YtjcbhnnlakfmaaaDoorKinP
import Derived.Test.YtjcbhnnlakfmaaaDoorProg
import Derived.Test.YtjcbhnnlakfmaaaDoorWorlds
import Derived.WalkKit
import Derived.Lib.Hide
namespace Go.Proofs.YtjcbhnnlakfmaaaDoor
open Go.RowKit Go.Lib Go.Ftx

theorem upper_any (r : Int) (w : World) (h0 : -2147483648 ≤ r) (h1 : r ≤ 2147483647) : Calls Tryd.prog 63 #[.int .i32 r] w fun e w' => e = .returned (.int .i32 (upperZ r)) ∧ w = w' := by
  unfold upperZ
  by_cases a : 97 ≤ r
  · by_cases b : r ≤ 122
    · rw [if_pos ⟨a, b⟩]
      go_enter Tryd.func63, Tryd.ntmps63
      go_wp2
      go_ret
      exact ⟨rfl, rfl⟩
    · rw [if_neg (by omega)]
      go_enter Tryd.func63, Tryd.ntmps63
      go_wp2
      go_ret
      exact ⟨rfl, rfl⟩
  · rw [if_neg (by omega)]
    go_enter Tryd.func63, Tryd.ntmps63
    go_wp2
    go_ret
    exact ⟨rfl, rfl⟩
end Go.Proofs.YtjcbhnnlakfmaaaDoor
