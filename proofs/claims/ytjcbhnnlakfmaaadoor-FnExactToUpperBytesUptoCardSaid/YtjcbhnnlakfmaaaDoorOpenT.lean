/- What a reading of a table of rules gives. -/
import Derived.Test.YtjcbhnnlakfmaaaDoorTabW
import Derived.Test.YtjcbhnnlakfmaaaDoorOpen
import Derived.ChangeSame
namespace Go.Proofs.YtjcbhnnlakfmaaaDoor
open Go.RowKit Go.Lib Go.ChangeShapes Go.WideShapes Go.ChangeAt Go.Ftx
set_option maxRecDepth 100000

theorem cellsRule : Tryd.prog.cellsOf 62 = 2 := by kernel_rfl
theorem cellsI32 : Tryd.prog.cellsOf 21 = 1 := by kernel_rfl
def pairD {H : Type} (x : Int × Int) : DataW H := .agg [.lit (.int .i32 x.1), .lit (.int .i32 x.2)]
theorem rule_open {H : Type} {enc : TypeId × Value → H} {W : World} {base : Nat} {sp : Nat → Bool} {held : Bool} {fuel : Nat} {cs : List Value} {x : DataW H × List MemPlace}
    (h : DataW.trod enc Tryd.prog W base sp held fuel 62 cs = some x) : ∃ z : Int × Int, cs = [.int .i32 z.1, .int .i32 z.2] ∧ x.1 = pairD z ∧ ((-2147483648 ≤ z.1 ∧ z.1 ≤ 2147483647) ∧ (-2147483648 ≤ z.2 ∧ z.2 ≤ 2147483647)) := by
  obtain ⟨y0, y1, n, rfl, hl, h0, h1⟩ := trod_struct2 Tryd.underlying62 h
  obtain ⟨a, ha, e0, w0⟩ := DataW.trod_int Tryd.underlying21 h0
  obtain ⟨b, hb, e1, w1⟩ := DataW.trod_int Tryd.underlying21 h1
  rw [cellsRule] at hl
  rw [cellsI32] at ha hb
  match cs, hl with
  | [c0, c1], _ =>
    simp at ha hb
    subst ha hb
    refine ⟨(a, b), rfl, by simp [e0, e1, pairD], ?_⟩
    simp [Lit.wf, IntKind.min, IntKind.max, IntKind.bits, IntKind.signed] at w0 w1
    exact ⟨by omega, by omega⟩
theorem table_open {H : Type} {enc : TypeId × Value → H} {W : World} {base : Nat} {held : Bool} {a0 : Option Addr} {len cap : Nat} {d : DataW H} {p : List MemPlace}
    (h : DataW.Trod enc Tryd.prog W base (fun _ => true) held 44 (.slice a0 len cap) d p) :
    ∃ T : List (Int × Int), T.length = len ∧ (RulesL W (.slice a0 len cap) T ∧ okT T) ∧ ((d = .nil ∧ T = []) ∨ ∃ spare, d = .slice (T.map pairD) spare) := by
  obtain ⟨fuel, hf⟩ := h
  rcases DataW.trod_slice Tryd.underlying44 hf with ⟨hcs, hx⟩ | ⟨a, l, c, el, rs, m, rfl, hcs, hx, _, hlc, hmx, hel, helem, _, _⟩
  · simp [Value.cells] at hcs
    obtain ⟨rfl, rfl, rfl⟩ := hcs
    exact ⟨[], rfl, ⟨.inl ⟨none, 0, rfl, rfl⟩, fun x hx => absurd hx (by simp)⟩, .inl ⟨congrArg Prod.fst hx, rfl⟩⟩
  · simp [Value.cells] at hcs
    obtain ⟨rfl, rfl, rfl⟩ := hcs
    rw [cellsRule] at helem
    have hz : ∀ i, i < len → ∃ z : Int × Int, W.cell? (a.add (i * 2)) = some (.int .i32 z.1) ∧ W.cell? ((a.add (i * 2)).add 1) = some (.int .i32 z.2) ∧ (el.map (·.1))[i]? = some (pairD z) ∧ ((-2147483648 ≤ z.1 ∧ z.1 ≤ 2147483647) ∧ (-2147483648 ≤ z.2 ∧ z.2 ≤ 2147483647)) := by
      intro i hi
      have h1 := helem i hi
      obtain ⟨b, hb⟩ : ∃ b, el[i]? = some b := ⟨el[i]'(by omega), List.getElem?_eq_getElem (by omega)⟩
      rw [hb] at h1
      obtain ⟨ce, hce, hte⟩ := Option.bind_eq_some_iff.1 h1
      obtain ⟨z, rfl, e1, hw⟩ := rule_open hte
      obtain ⟨_, _, hcc⟩ := World.cells?_some hce
      have k0 := hcc 0 (by omega)
      have k1 := hcc 1 (by omega)
      refine ⟨z, ?_, by simpa using k1, by rw [List.getElem?_map, hb]; simp [e1], hw⟩
      have : (a.add (i * 2)).add 0 = a.add (i * 2) := by simp [Addr.add]
      rw [this] at k0
      simpa using k0
    have hT : ∃ T : List (Int × Int), T.length = len ∧ ∀ i, i < len → W.cell? (a.add (i * 2)) = some (.int .i32 (T.getD i (0, 0)).1) ∧ W.cell? ((a.add (i * 2)).add 1) = some (.int .i32 (T.getD i (0, 0)).2) ∧ (el.map (·.1))[i]? = some (pairD (T.getD i (0, 0))) ∧
        ((-2147483648 ≤ (T.getD i (0, 0)).1 ∧ (T.getD i (0, 0)).1 ≤ 2147483647) ∧ (-2147483648 ≤ (T.getD i (0, 0)).2 ∧ (T.getD i (0, 0)).2 ≤ 2147483647)) := by
      refine ⟨(List.range len).map fun i => if hi : i < len then Classical.choose (hz i hi) else (0, 0), by simp, fun i hi => ?_⟩
      have e : ((List.range len).map fun i => if hi : i < len then Classical.choose (hz i hi) else (0, 0)).getD i (0, 0) = Classical.choose (hz i hi) := by
        simp [List.getD, hi]
      rw [e]
      exact Classical.choose_spec (hz i hi)
    obtain ⟨T, hTl, hTc⟩ := hT
    have hd : el.map (·.1) = T.map pairD := by
      apply List.ext_getElem?
      intro i
      by_cases hi : i < len
      · rw [(hTc i hi).2.2.1, List.getElem?_map]
        simp [List.getD, show i < T.length by omega]
      · rw [List.getElem?_eq_none (by simp; omega), List.getElem?_eq_none (by simp; omega)]
    refine ⟨T, hTl, ⟨?_, ?_⟩, .inr ⟨rs.map (·.1), by rw [← hd]; exact congrArg Prod.fst hx⟩⟩
    · by_cases h0 : len = 0
      · subst h0
        exact .inl ⟨_, cap, rfl, List.length_eq_zero_iff.1 hTl⟩
      · obtain ⟨b, off, s⟩ := a
        obtain rfl : s = none := by
          have := (hTc 0 (by omega)).1
          have e : (Addr.add ⟨b, off, s⟩ (0 * 2)) = ⟨b, off, s⟩ := by simp [Addr.add]
          rw [e] at this
          exact cell_spot this
        refine .inr ⟨b, off, cap, by rw [hTl], by omega, by unfold maxLen at hmx; omega, fun i hi => ?_⟩
        have := hTc i (by omega)
        rw [Addr.add_lit, Addr.add_lit] at this
        exact ⟨this.1, this.2.1⟩
    · intro x hx
      obtain ⟨i, hi, rfl⟩ := List.mem_iff_getElem.1 hx
      have := (hTc i (by omega)).2.2.2
      simpa [List.getD, hi] using this
theorem wf_i32 {z : Int} (h : (Lit.int .i32 z).wf = true) : -2147483648 ≤ z ∧ z ≤ 2147483647 := by
  simp [Lit.wf, IntKind.min, IntKind.max, IntKind.bits, IntKind.signed] at h
  omega
end Go.Proofs.YtjcbhnnlakfmaaaDoor
