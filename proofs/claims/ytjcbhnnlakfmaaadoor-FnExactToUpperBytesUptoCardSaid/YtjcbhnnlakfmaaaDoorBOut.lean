/- What the functions on slices of bytes return, as the laws ask for it; a constant's bytes made in whatever order; ways through a region that meet again. Written by gen_bout.py. -/
import Derived.Test.YtjcbhnnlakfmaaaDoorBCase
import Derived.Test.YtjcbhnnlakfmaaaDoorEqB
import Derived.Test.YtjcbhnnlakfmaaaDoorLawMapA
import Derived.Test.YtjcbhnnlakfmaaaDoorEqC
namespace Go.Proofs.YtjcbhnnlakfmaaaDoor
open Go.Shelf Go.RowKit Go.Lib Go.Ftx
/-- two ways meet again: what is behind them is shown once -/
theorem merge3 {F X : Nat → Nat → World → Prop} {goal : Prop} (main : (∀ a b W, F a b W → X a b W) → goal) (key : ∀ a b W, F a b W → X a b W) : goal := main key
theorem merge5 {F X : Nat → Nat → Nat → Nat → World → Prop} {goal : Prop} (main : (∀ a b c d W, F a b c d W → X a b c d W) → goal) (key : ∀ a b c d W, F a b c d W → X a b c d W) : goal := main key
theorem EqTabs.ct {w : World} (h : EqTabs w) : CTabs w := ⟨h.1.2.2, h.2⟩
/-- a new slice that holds a text: what string(..) makes of it -/
def OutP (W : World) (o : ByteArray) (e : Ending) (w' : World) : Prop := ∃ g c, e = .returned (.slice (some ⟨g, 0, none⟩) o.size c) ∧ (∀ w'', w'.grownBy w'' none → (convert 22 9 (.slice (some ⟨g, 0, none⟩) o.size c)).run Tryd.prog w'' = .ok (.string o) w'') ∧ W.grownBy w' none
theorem fresh_is {W w' : World} {l : List UInt8} {o : ByteArray} {e : Ending} (ho : l = o.data.toList) (h : FreshP W l e w') : OutP W o e w' := by
  obtain ⟨g, cap, he, hge, hgl, hlc, hcm, hcells, hg⟩ := h
  have hB := FreshP.bytes hlc hcm hcells
  have hz : o.data.toList.length = o.size := (Lib.size_eq o).symm
  subst ho
  rw [hz] at he hB
  refine ⟨g, cap, he, fun w'' hk => ?_, hg⟩
  have h := bytes_str (hB.kept hk)
  rw [Array.toArray_toList] at h
  exact h
theorem eqB_is (v u : Value) (l m : List UInt8) (W : World) (b : Bool) (hl : l.length ≤ 4611686018427387904) (hm : m.length ≤ 4611686018427387904) (hB1 : BytesL W v l) (hB2 : BytesL W u m) (hT : EqTabs W) (hb : eqF l m = b) :
    Calls Tryd.prog 18 #[v, u] W fun e w' => e = .returned (.bool b) ∧ W.grownBy w' none := by
  have h := implEqB_any l m v u W hl hm hB1 hB2 hT.1 hT.2
  rw [hb] at h
  exact h
/-- the constant's bytes lie in a block; the mark that the conversion leaves -/
def SomeAt (W : World) (b : Nat) (fr : Nat × Nat) : Prop := W.heap[b]? = some (.cells #[.int .u8 115, .int .u8 111, .int .u8 109, .int .u8 101] 5 fr)
theorem SomeAt.lt {W : World} {b : Nat} {fr : Nat × Nat} (h : SomeAt W b fr) : b < W.heap.size := by
  rcases Nat.lt_or_ge b W.heap.size with h' | h'
  · exact h'
  · unfold SomeAt at h
    rw [Array.getElem?_eq_none h'] at h
    cases h
theorem SomeAt.kept {W W' : World} {b : Nat} {fr : Nat × Nat} (h : SomeAt W b fr) (hg : W.grownBy W' none) : SomeAt W' b fr := (hg.block b h.lt (by simp)).trans h
theorem SomeAt.other {W W' : World} {b c : Nat} {fr : Nat × Nat} (h : SomeAt W b fr) (hg : W.grownBy W' (some c)) (hne : b ≠ c) : SomeAt W' b fr := (hg.block b h.lt (by simpa using hne)).trans h
theorem SomeAt.bytes {W : World} {b : Nat} {fr : Nat × Nat} (h : SomeAt W b fr) : BytesL W (.slice (some ⟨b, 0, none⟩) 4 4) #[115, 111, 109, 101].toList := by
  refine .inr ⟨b, 0, 4, rfl, by decide, by omega, fun i hi => ?_⟩
  have hi' : i < 4 := hi
  rw [Nat.zero_add]
  refine Eq.trans (cell_of_heap h i) ?_
  rcases i with _ | _ | _ | _ | i
  · rfl
  · rfl
  · rfl
  · rfl
  · omega
theorem some_block (V : World) : ∃ b W', SomeAt W' b (0, 0) ∧ V.heap.size ≤ b ∧ V.grownBy W' none ∧ V.alloc (.cells #[.int .u8 115, .int .u8 111, .int .u8 109, .int .u8 101] 5) = W' ∧ V.heap.size = b :=
  ⟨V.heap.size, _, heap_alloc_new V _, Nat.le_refl _, World.grownBy_alloc V _ none, rfl, rfl⟩
theorem conv_mark (W : World) (b : Nat) (h : SomeAt W b (0, 0)) : ∃ W', (convert 22 22 (.slice (some ⟨b, 0, none⟩) 4 4)).run Tryd.prog W = .ok (.slice (some ⟨b, 0, none⟩) 4 4) W' ∧ SomeAt W' b (4, 5) ∧ W.grownBy W' (some b) := by
  have hsh : W.shape? b = some (5, 4) := by
    unfold World.shape?
    rw [show W.heap[b]? = _ from h]
    rfl
  have hfr : W.freeze ⟨b, 4, none⟩ 1 = { W with heap := W.heap.modify b fun
      | .cells c elem (lo, hi) => .cells c elem (if lo == hi then (4, 4 + 1) else (min lo 4, max hi (4 + 1)))
      | o => o } := by
    unfold World.freeze
    rw [if_neg (by decide)]
    rfl
  refine ⟨W.freeze ⟨b, 4, none⟩ 1, by simp [convert, run_underlying Tryd.underlying22, run_underlying Tryd.underlying5, markStringish, hsh], ?_, ?_⟩
  · rw [hfr]
    show (W.heap.modify b _)[b]? = _
    rw [Array.getElem?_modify, if_pos rfl, show W.heap[b]? = _ from h]
    rfl
  · rw [hfr]
    refine ⟨rfl, rfl, rfl, ?_, fun i hi hne => ?_⟩
    · show W.heap.size ≤ (W.heap.modify b _).size
      rw [Array.size_modify]
      exact Nat.le_refl _
    · show (W.heap.modify b _)[i]? = _
      rw [Array.getElem?_modify, if_neg (fun e => hne (by rw [e]))]
theorem some_conv2 (w : World) : (convert 22 22 (.slice (some ⟨w.heap.size + 1, 0, none⟩) 4 4)).run Tryd.prog ((w.alloc (.cells #[.int .u8 115, .int .u8 111, .int .u8 109, .int .u8 101] 5 (4, 5))).alloc (.cells #[.int .u8 115, .int .u8 111, .int .u8 109, .int .u8 101] 5)) = .ok (.slice (some ⟨w.heap.size + 1, 0, none⟩) 4 4) ((w.alloc (.cells #[.int .u8 115, .int .u8 111, .int .u8 109, .int .u8 101] 5 (4, 5))).alloc (.cells #[.int .u8 115, .int .u8 111, .int .u8 109, .int .u8 101] 5 (4, 5))) := by
  have h := some_conv (w.alloc (.cells #[.int .u8 115, .int .u8 111, .int .u8 109, .int .u8 101] 5 (4, 5)))
  rw [asize] at h
  exact h

theorem bytesUpper_is (v : Value) (l : List UInt8) (o : ByteArray) (W : World) (hB : BytesL W v l) (hs : l.length < 35184372088832) (hT : CTabs W) (ho : mapD toUpperU l = o.data.toList) :
    Calls Tryd.prog 20 #[v] W (OutP W o) := (implUpperB_any v l W hB hs hT).mono fun _ _ h => fresh_is ho h

theorem bytesLower_is (v : Value) (l : List UInt8) (o : ByteArray) (W : World) (hB : BytesL W v l) (hs : l.length < 35184372088832) (hT : CTabs W) (ho : mapD toLowerU l = o.data.toList) :
    Calls Tryd.prog 22 #[v] W (OutP W o) := (implLowerB_any v l W hB hs hT).mono fun _ _ h => fresh_is ho h

theorem bytesTitle_is (v : Value) (l : List UInt8) (o : ByteArray) (W : World) (hB : BytesL W v l) (hs : l.length < 35184372088832) (hT : CTabs W) (ho : mapD toTitleU l = o.data.toList) :
    Calls Tryd.prog 24 #[v] W (OutP W o) := (implTitleB_any v l W hB hs hT).mono fun _ _ h => fresh_is ho h

end Go.Proofs.YtjcbhnnlakfmaaaDoor
