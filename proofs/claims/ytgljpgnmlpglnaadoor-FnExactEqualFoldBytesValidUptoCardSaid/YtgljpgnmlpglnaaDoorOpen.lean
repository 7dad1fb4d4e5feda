/- What a reading of an argument gives: a slice of bytes holds a list of bytes. -/
import Derived.Test.YtgljpgnmlpglnaaDoorPick
import Derived.Test.YtgljpgnmlpglnaaDoorRows
import Derived.ProofKit
import Derived.Lib.LaidU8
namespace Go.Proofs.YtgljpgnmlpglnaaDoor
open Go.RowKit Go.Lib Go.ChangeShapes Go.WideShapes Go.ChangeAt
set_option maxRecDepth 100000

theorem cellsU8 : Tryd.prog.cellsOf 5 = 1 := by kernel_rfl
theorem bytes_open {H : Type} {enc : TypeId × Value → H} {W : World} {base : Nat} {held : Bool} {a0 : Option Addr} {len cap : Nat} {d : DataW H} {p : List MemPlace}
    (h : DataW.Trod enc Tryd.prog W base (fun _ => true) held 22 (.slice a0 len cap) d p) :
    ∃ l : List UInt8, l.length = len ∧ BytesL W (.slice a0 len cap) l ∧ ((d = .nil ∧ l = []) ∨ ∃ spare, d = .slice (l.map fun b => .lit (.int .u8 (b.toNat : Int))) spare) := by
  obtain ⟨fuel, hf⟩ := h
  rcases open_ints Tryd.underlying22 Tryd.underlying5 cellsU8 hf with ⟨hcs, hx⟩ | ⟨x, l, c, zs, hcs, _, hl, hm, hz, hx, hcell, hwz⟩
  · simp [Value.cells] at hcs
    obtain ⟨rfl, rfl, rfl⟩ := hcs
    exact ⟨[], rfl, .inl ⟨none, 0, rfl, rfl⟩, .inl ⟨congrArg Prod.fst hx, rfl⟩⟩
  · simp [Value.cells] at hcs
    obtain ⟨rfl, rfl, rfl⟩ := hcs
    have hzl : zs.length = cap := by simpa using hz
    have hbyte : ∀ z ∈ zs, 0 ≤ z ∧ z < 256 := fun z hz => by
      have := hwz z hz
      simp [Lit.wf, IntKind.min, IntKind.max, IntKind.bits, IntKind.signed] at this
      omega
    have hlen : ((zs.take len).map fun z => UInt8.ofNat z.toNat).length = len := by simp; omega
    have hd : d = .slice (((zs.take len).map fun z => UInt8.ofNat z.toNat).map fun b => .lit (.int .u8 (b.toNat : Int))) (lits .u8 (zs.drop len)) := by
      have h1 : d = .slice (lits .u8 (zs.take len)) (lits .u8 (zs.drop len)) := congrArg Prod.fst hx
      rw [h1]
      congr 1
      unfold lits
      rw [List.map_map]
      apply List.map_congr_left
      intro z hz
      have := hbyte z (List.mem_of_mem_take hz)
      simp
      omega
    refine ⟨(zs.take len).map fun z => UInt8.ofNat z.toNat, hlen, ?_, .inr ⟨_, hd⟩⟩
    by_cases h0 : len = 0
    · subst h0
      exact .inl ⟨_, cap, rfl, by simp⟩
    · obtain ⟨b, off, sp⟩ := x
      have h00 := hcell 0 (by omega)
      obtain rfl : sp = none := by
        have : (Addr.add ⟨b, off, sp⟩ 0) = ⟨b, off, sp⟩ := by simp [Addr.add]
        rw [this] at h00
        exact cell_spot h00
      refine .inr ⟨b, off, cap, by rw [hlen], by rw [hlen]; exact hl, by unfold maxLen at hm; omega, fun i hi => ?_⟩
      rw [hlen] at hi
      have hi' : i < zs.length := by omega
      have h1 := hcell i hi'
      rw [Addr.add_lit] at h1
      rw [h1]
      have hb := hbyte zs[i] (List.getElem_mem hi')
      simp [List.getD, hi, hi']
      omega
end Go.Proofs.YtgljpgnmlpglnaaDoor
