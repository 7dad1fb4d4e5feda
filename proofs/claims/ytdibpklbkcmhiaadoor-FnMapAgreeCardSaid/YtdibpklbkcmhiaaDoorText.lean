/- spec.Ascii, spec.LowerText, spec.UpperText: characters of one byte. -/
import Derived.Test.YtdibpklbkcmhiaaDoorLow
import Derived.Test.YtdibpklbkcmhiaaDoorRaw
import Derived.Deep.LoopGhost
import Derived.Laws.AppendOwn
import Derived.Laws.OwnMore
import Derived.OwnWalk
import Derived.Lib.FieldsLaws
namespace Go.Ftx
def asciiB (l : List UInt8) : Bool := l.all fun b => decide (b.toNat < 128)
theorem lowerZ_byte (b : UInt8) : 0 ≤ lowerZ b.toNat ∧ lowerZ b.toNat < 256 := by
  have := UInt8.toNat_lt b
  unfold lowerZ; split <;> omega
theorem upperZ_byte (b : UInt8) : 0 ≤ upperZ b.toNat ∧ upperZ b.toNat < 256 := by
  have := UInt8.toNat_lt b
  unfold upperZ; split <;> omega
def lowB (b : UInt8) : UInt8 := UInt8.ofNat (lowerZ b.toNat).toNat
def uppB (b : UInt8) : UInt8 := UInt8.ofNat (upperZ b.toNat).toNat
theorem lowB_val (b : UInt8) : ((lowB b).toNat : Int) = lowerZ b.toNat := by
  have := lowerZ_byte b
  unfold lowB
  simp
  omega
theorem uppB_val (b : UInt8) : ((uppB b).toNat : Int) = upperZ b.toNat := by
  have := upperZ_byte b
  unfold uppB
  simp
  omega
end Go.Ftx
namespace Go.Proofs.YtdibpklbkcmhiaaDoor
open Go.RowKit Go.Lib Go.Ftx

theorem take_snoc (l : List UInt8) (k : Nat) (x : UInt8) (h : l[k]? = some x) : l.take (k + 1) = l.take k ++ [x] := by
  rw [List.take_add_one, h]
  rfl
def byteVals (l : List UInt8) : List Value := l.map fun b => Value.int .u8 ((b.toNat : Nat) : Int)
theorem byteVals_snoc (l : List UInt8) (x : UInt8) : byteVals (l ++ [x]) = byteVals l ++ [Value.int .u8 ((x.toNat : Nat) : Int)] := by simp [byteVals]


theorem infoU8 : (Tryd.prog.info? 5).map (fun i => (i.zero, i.size, i.bytes)) = some (some (.int .u8 0), 1, 1) := by kernel_rfl
/-- a slice that the call owns, of length above 0 or made by a literal, is no nil -/
theorem own_form {w : World} {base : Nat} {e : TypeId} {v : Value} {n : Nat} {xs : List Value} (h : w.ownsRow base e 1 v n xs) (hv : v ≠ .slice none 0 0) : ∃ g cap, v = .slice (some ⟨g, 0, none⟩) n cap ∧ base ≤ g ∧ n ≤ cap := by
  rcases h.2 with ⟨h0, _⟩ | ⟨g, cap, cur, rfl, hb, _, hn, _⟩
  · exact absurd h0 hv
  · exact ⟨g, cap, rfl, hb, hn⟩
theorem own_string {w : World} {base g n cap : Nat} {l : List UInt8} (hn : l.length = n) (h : w.ownsRow base 5 1 (.slice (some ⟨g, 0, none⟩) n cap) n (byteVals l)) :
    (convert 23 9 (.slice (some ⟨g, 0, none⟩) n cap)).run Tryd.prog w = .ok (.string ⟨l.toArray⟩) w := by
  subst hn
  refine run_convert_bytes_back (P := Tryd.prog) w 23 9 5 ⟨g, 0, none⟩ cap l Tryd.underlying23 Tryd.underlying5 Tryd.underlying9 (fun j hj => ?_)
  have := h.cellAt j (by omega)
  rw [Addr.add_lit, Nat.zero_add, this]
  simp [byteVals, hj]


end Go.Proofs.YtdibpklbkcmhiaaDoor
