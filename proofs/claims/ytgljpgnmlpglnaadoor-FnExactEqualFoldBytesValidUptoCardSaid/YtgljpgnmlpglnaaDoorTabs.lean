/- From what a row lists of package unicode's tables to what the walks ask of them. -/
import Derived.Test.YtgljpgnmlpglnaaDoorRows
import Derived.Test.YtgljpgnmlpglnaaDoorFoldW
import Derived.Test.YtgljpgnmlpglnaaDoorCaseC
import Derived.Test.YtgljpgnmlpglnaaDoorWorlds
import Derived.PinnedBridge
import Derived.Lib.LaidCaseMet
import Derived.Lib.LaidTab
import Derived.Lib.LaidIn
namespace Go.Proofs.YtgljpgnmlpglnaaDoor
open Go.Shelf Go.RowKit Go.Lib Go.Ftx
set_option maxRecDepth 100000

theorem tabCells_of_reads {w : World} {name : String} {k : IntKind} {zs : List Int} {g : Nat} {t e : TypeId} {n : Nat}
    (hg : Tryd.prog.globalNamed name = some g) (hty : (Tryd.prog.globals[g]?).map (·.type) = some t) (ht : Tryd.prog.underlying t = some (.array n e)) (he : Tryd.prog.underlying e = some (.int k)) (hce : Tryd.prog.cellsOf e = 1) (hct : Tryd.prog.cellsOf t = n)
    (h : VarReads Tryd.prog w name (tabData k zs)) : Lib.TabIs Tryd.prog w name k zs := by
  obtain ⟨g', t', cs, fuel, p, hg', ht', hvar, hd⟩ := h
  obtain rfl := Option.some.inj (hg.symm.trans hg')
  obtain rfl := Option.some.inj (hty.symm.trans ht')
  unfold Lib.TabIs
  rw [hvar, ← cells_of_tab ht he hce hct hd]

theorem gAscii : Tryd.prog.globalNamed "unicode.asciiFold" = some 2 := by kernel_rfl
theorem gAsciiT : (Tryd.prog.globals[2]?).map (·.type) = some 54 := by kernel_rfl
theorem gOrb : Tryd.prog.globalNamed "unicode.caseOrbit" = some 3 := by kernel_rfl
theorem gOrbT : (Tryd.prog.globals[3]?).map (·.type) = some 55 := by kernel_rfl
theorem cellsU16 : Tryd.prog.cellsOf 53 = 1 := by kernel_rfl
theorem cellsAscii : Tryd.prog.cellsOf 54 = 128 := by kernel_rfl
theorem cellsPair : Tryd.prog.cellsOf 57 = 2 := by kernel_rfl
theorem ascii_data : (Rows.laid_unicode_asciiFold : DataW Unit) = tabData .u16 (asciiT.map fun (n : Nat) => (n : Int)) := by kernel_rfl
def pairData (x : Nat × Nat) : DataW Unit := .agg ([(x.1 : Int), (x.2 : Int)].map fun z => .lit (.int .u16 z))
theorem orb_data : (Rows.laid_unicode_caseOrbit : DataW Unit) = .slice (orbitT.map pairData) [] := by kernel_rfl
theorem asciiT_len : asciiT.length = 128 := by kernel_rfl
theorem orbitT_len : orbitT.length = 94 := by kernel_rfl

theorem pairFields (j : Nat) (f : Field) (h : (#[{ name := "From", type := 53, offset := 0, embedded := false, tag := "", pkgPath := "", byteOffset := 0 }, { name := "To", type := 53, offset := 1, embedded := false, tag := "", pkgPath := "", byteOffset := 2 }] : Array Field)[j]? = some f) :
    Tryd.prog.underlying f.type = some (.int .u16) ∧ f.offset = j ∧ Tryd.prog.cellsOf f.type = 1 := by
  match j, h with
  | 0, h => simp at h; subst h; exact ⟨Tryd.underlying53, rfl, cellsU16⟩
  | 1, h => simp at h; subst h; exact ⟨Tryd.underlying53, rfl, cellsU16⟩
  | j + 2, h => simp at h

theorem orb_of_reads {w : World} (h : VarReads Tryd.prog w "unicode.caseOrbit" (.slice (orbitT.map pairData) [])) :
    ∃ R oR cap, w.cell? ⟨3, 0, none⟩ = some (.slice (some ⟨R, oR, none⟩) 94 cap) ∧ OrbTab R oR w := by
  obtain ⟨g, t, cs, fuel, p, hg, hty, hvar, hd⟩ := h
  obtain rfl := Option.some.inj (gOrb.symm.trans hg)
  obtain rfl := Option.some.inj (gOrbT.symm.trans hty)
  rcases DataW.trod_slice Tryd.underlying55 hd with ⟨_, hx'⟩ | ⟨a', len, cap, el, rs, m, rfl, hc0, hx', _, hlc, _, hel, helem, hsp, _⟩
  · cases hx'
  have e0 := congrArg Prod.fst hx'
  simp only [DataW.slice.injEq] at e0
  obtain ⟨eE, eR⟩ := e0
  have hlen : len = 94 := by
    have := congrArg List.length eE
    rw [List.length_map, List.length_map, orbitT_len] at this
    omega
  have hrow : ∀ i, i < len → ∀ j, j < 2 → w.cell? ((a'.add (i * 2)).add j) = ([.int .u16 ((orbitA.getD i (0, 0)).1 : Nat), .int .u16 ((orbitA.getD i (0, 0)).2 : Nat)] : List Value)[j]? := by
    intro i hi j hj
    have h1 := helem i hi
    rw [cellsPair] at h1
    obtain ⟨b, hb⟩ : ∃ b, el[i]? = some b := ⟨el[i]'(by omega), List.getElem?_eq_getElem (by omega)⟩
    rw [hb] at h1
    obtain ⟨ce, hce, hte⟩ := Option.bind_eq_some_iff.1 h1
    have hb1 : b.1 = pairData (orbitA.getD i (0, 0)) := by
      have := congrArg (·[i]?) eE
      simp only [List.getElem?_map, hb, Option.map_some] at this
      have hi' : i < orbitT.length := by rw [orbitT_len]; omega
      rw [List.getElem?_eq_getElem hi'] at this
      simp only [Option.map_some, Option.some.injEq] at this
      rw [← this]
      simp [orbitA, Array.getD, hi']
    have hcs := ints_of_struct (p := b.2) (zs := [((orbitA.getD i (0, 0)).1 : Int), ((orbitA.getD i (0, 0)).2 : Int)]) Tryd.underlying57 pairFields cellsPair (by
      have e : b = (pairData (orbitA.getD i (0, 0)), b.2) := by rw [← hb1]
      rw [e] at hte
      exact hte)
    obtain ⟨_, _, hcc⟩ := World.cells?_some hce
    rw [hcc j hj, hcs]
    rfl
  obtain ⟨R, oR, sR⟩ := a'
  obtain rfl : sR = none := by
    have h00 := hrow 0 (by omega) 0 (by omega)
    have : (Addr.add (Addr.add ⟨R, oR, sR⟩ (0 * 2)) 0) = ⟨R, oR, sR⟩ := by simp [Addr.add]
    rw [this] at h00
    exact cell_spot h00
  refine ⟨R, oR, cap, ?_, fun i hi => ?_⟩
  · rw [World.var?_cell hg hvar 0, ← Array.getElem?_toList, hc0, hlen]
    rfl
  · have k0 := hrow i (by omega) 0 (by omega)
    have k1 := hrow i (by omega) 1 (by omega)
    rw [Addr.add_lit, Addr.add_lit] at k0 k1
    exact ⟨by simpa using k0, by simpa using k1⟩

theorem foldTabs_of_reads {w : World} (h1 : VarReads Tryd.prog w "unicode.asciiFold" Rows.laid_unicode_asciiFold) (h2 : VarReads Tryd.prog w "unicode.caseOrbit" Rows.laid_unicode_caseOrbit) (h3 : VarReads Tryd.prog w "unicode.CaseRanges" Rows.laid_unicode_CaseRanges) : FoldTabs w := by
  rw [ascii_data] at h1
  rw [orb_data] at h2
  refine ⟨fun i hi => ?_, orb_of_reads h2, caseV_of_reads h3⟩
  have ht := tabCells_of_reads gAscii gAsciiT Tryd.underlying54 Tryd.underlying53 cellsU16 cellsAscii h1
  have hi' : i < asciiT.length := by rw [asciiT_len]; exact hi
  have := ht.cell gAscii i (by rw [List.length_map]; exact hi')
  rw [this]
  simp [List.getD, hi']
end Go.Proofs.YtgljpgnmlpglnaaDoor
