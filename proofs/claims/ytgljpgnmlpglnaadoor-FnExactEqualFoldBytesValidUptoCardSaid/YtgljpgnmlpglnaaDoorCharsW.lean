/- spec.Chars returns a new slice with the characters of a text. -/
import Derived.Test.YtgljpgnmlpglnaaDoorChars
import Derived.Test.YtgljpgnmlpglnaaDoorProg
import Derived.Test.YtgljpgnmlpglnaaDoorWorlds
import Derived.WalkKit
import Derived.Below
import Derived.Lib.Hide
import Derived.Laws.IdiomStrings
import Derived.Laws.OwnMore
namespace Go.Proofs.YtgljpgnmlpglnaaDoor
open Go.RowKit Go.Lib Go.Ftx

def runeVals (rs : List Nat) : List Value := rs.map fun r => Value.int .i32 ((r : Nat) : Int)
def CharsPost (w : World) (rs : List Nat) (e : Ending) (w' : World) : Prop :=
  ∃ g cap, e = .returned (.slice (some ⟨g, 0, none⟩) rs.length cap) ∧ w'.ownsRow w.heap.size 21 1 (.slice (some ⟨g, 0, none⟩) rs.length cap) rs.length (runeVals rs) ∧ w.grownBy w' none

theorem chars_own (w : World) (rs : List Nat) (h : rs.length ≤ maxLen) :
    (w.drew.alloc (.cells ((runeVals rs).toArray ++ Array.replicate (grownCap w rs.length 0 21 - rs.length) (.int .i32 0)) 21)).ownsRow w.heap.size 21 1
      (.slice (some ⟨w.heap.size, 0, none⟩) rs.length (grownCap w rs.length 0 21)) rs.length (runeVals rs) := by
  have hge := grownCap_ge w rs.length 0 21
  refine ⟨by simp [runeVals], .inr ⟨w.heap.size, _, _, rfl, Nat.le_refl _, heap_alloc_new w.drew _, hge, grownCap_le_maxLen w _ _ _ h, ?_, ?_⟩⟩
  · simp [runeVals]; omega
  · simp [runeVals]

set_option maxHeartbeats 1000000 in
theorem chars_any (s : ByteArray) (w : World) (hs : s.size ≤ 70368744177664) :
    Calls Tryd.prog 19 #[.string s] w (CharsPost w (chars s.data.toList)) := by
  have hl := chars_length s.data.toList
  rw [← Lib.size_eq] at hl
  have hrun := run_runes_of_string (P := Tryd.prog) w 9 29 21 s Tryd.underlying9 Tryd.underlying29 Tryd.underlying21 (by rw [runes_chars]; simp; omega)
  have ho := Lib.hid (chars_own w (chars s.data.toList) (by unfold maxLen; omega))
  rw [runes_chars] at hrun
  generalize chars s.data.toList = rs at *
  change _ = Result.ok (Value.slice (some ⟨w.heap.size, 0, none⟩) ((runeVals rs).toArray.size) (grownCap w ((runeVals rs).toArray.size) 0 21)) (w.drew.alloc (.cells ((runeVals rs).toArray ++ Array.replicate (grownCap w ((runeVals rs).toArray.size) 0 21 - (runeVals rs).toArray.size) (.int .i32 0)) 21)) at hrun
  rw [show (runeVals rs).toArray.size = rs.length by simp [runeVals]] at hrun
  generalize hCELLS : ((runeVals rs).toArray ++ Array.replicate (grownCap w rs.length 0 21 - rs.length) (Value.int .i32 0)) = CELLS at *
  generalize grownCap w rs.length 0 21 = CAP at *
  clear hCELLS
  go_enter Tryd.func19, Tryd.ntmps19
  go_wp2
  go_ret
  exact ⟨_, _, rfl, ho.out, gdrew (World.grownBy_alloc w _ none)⟩
end Go.Proofs.YtgljpgnmlpglnaaDoor
