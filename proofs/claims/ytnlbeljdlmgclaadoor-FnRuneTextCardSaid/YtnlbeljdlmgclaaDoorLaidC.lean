/- A world in which unicode.CaseRanges lies as it is listed: its piece of the witness. -/
import Derived.Test.YtnlbeljdlmgclaaDoorCaseC
import Derived.Lib.LaidCaseMet
import Derived.Lib.LaidIn
namespace Go.Proofs.YtnlbeljdlmgclaaDoor
open Go.Shelf Go.Lib

set_option maxRecDepth 100000 in
theorem laidIn_case {w : World} (R : Nat) (t : TypeId) (hgR : 6 ≠ R)
    (hvar : w.heap[6]? = some (.cells #[.slice (some ⟨R, 0, none⟩) caseA.size caseA.size] 78 (0, 0)))
    (hblk : w.heap[R]? = some (.cells caseCells5 t (0, 0))) : LaidIn Tryd.prog w [("unicode.CaseRanges", caseData)] [6, R] := by
  have hT := caseTab_of_block hblk
  have hread := case_slice_reads laysC t206C extraC hT caseA_wf (by rw [Lib.caseA_size]; unfold maxLen; omega) 0
  rw [case_rows_data] at hread
  have hv : w.var? Tryd.prog "unicode.CaseRanges" = some #[.slice (some ⟨R, 0, none⟩) caseA.size caseA.size] := by
    have n13 : Tryd.prog.globalNamed "unicode.CaseRanges" = some 6 := extraC.n13
    simp [World.var?, n13, hvar]
  refine LaidIn.one [6, R] extraC.n13 extraC.y13 hv hread ?_ ?_ ?_
  · refine List.nodup_append.2 ⟨rowP_nodup _ _, rowP_nodup _ _, ?_⟩
    intro a ha b hb e
    obtain ⟨i, _, rfl⟩ := MemPlace.mem_row.1 ha
    obtain ⟨j, _, rfl⟩ := MemPlace.mem_row.1 hb
    simp at e
    exact hgR e.1
  · intro b off hp
    rcases List.mem_append.1 hp with hp | hp
    · obtain ⟨i, hi, e⟩ := MemPlace.mem_row.1 hp
      cases e
      refine ⟨⟨_, _, hvar⟩, fun u v hc => ?_⟩
      obtain rfl : i = 0 := by simp at hi; omega
      change w.cell? ⟨6, 0 + 0, none⟩ = _ at hc
      rw [Lib.cell_of_heap hvar] at hc
      simp at hc
    · obtain ⟨i, hi, e⟩ := MemPlace.mem_row.1 hp
      cases e
      refine ⟨⟨_, _, hblk⟩, fun u v hc => ?_⟩
      obtain ⟨c0, c1, c2, c3, c4⟩ := hT (i / 5) (by omega)
      have hi5 : 0 + i = 0 + i / 5 * 5 + i % 5 := by omega
      simp only at hc
      rw [hi5] at hc
      have hm : i % 5 < 5 := Nat.mod_lt _ (by omega)
      match hk : i % 5, hm with
      | 0, _ => rw [hk, Nat.add_zero, c0] at hc; cases hc
      | 1, _ => rw [hk, c1] at hc; cases hc
      | 2, _ => rw [hk, c2] at hc; cases hc
      | 3, _ => rw [hk, c3] at hc; cases hc
      | 4, _ => rw [hk, c4] at hc; cases hc
  · intro x hx
    rcases List.mem_append.1 hx with hx | hx
    · obtain ⟨i, _, rfl⟩ := MemPlace.mem_row.1 hx
      exact List.mem_cons_self
    · obtain ⟨i, _, rfl⟩ := MemPlace.mem_row.1 hx
      exact List.mem_cons_of_mem _ List.mem_cons_self
end Go.Proofs.YtnlbeljdlmgclaaDoor
