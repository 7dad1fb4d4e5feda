/- Small facts on worlds: what was there stays, new blocks come. -/
import Derived.Below
import Derived.Laws.OwnMore
import Derived.WalkKit
import Derived.Deep.QuietTactic
namespace Go.Proofs.YtgljpgnmlpglnaaDoor
open Go.RowKit

theorem gtrans {a b c : World} {row : Option Nat} (h : a.grownBy b row) (k : b.grownBy c row) : a.grownBy c row :=
  ⟨k.os.trans h.os, k.tape.trans h.tape, k.output.trans h.output, Nat.le_trans h.size k.size, fun i hi hne => (k.block i (Nat.lt_of_lt_of_le hi h.size) hne).trans (h.block i hi hne)⟩
theorem galloc {a b : World} {row : Option Nat} (h : a.grownBy b row) (o : Obj) : a.grownBy (b.alloc o) row := gtrans h (World.grownBy_alloc b o row)
theorem grefl (w : World) (row : Option Nat) : w.grownBy w row := ⟨rfl, rfl, rfl, Nat.le_refl _, fun _ _ _ => rfl⟩
/-- many new blocks -/
theorem asize (w : World) (o : Obj) : (w.alloc o).heap.size = w.heap.size + 1 := by show (w.heap.push o).size = _; simp
theorem allocs_size : ∀ (os : List Obj) (w : World), (os.foldl World.alloc w).heap.size = w.heap.size + os.length
  | [], _ => rfl
  | o :: t, w => by rw [List.foldl_cons, allocs_size t, asize]; simp; omega
theorem allocs_old : ∀ (os : List Obj) (w : World) (k : Nat), k < w.heap.size → (os.foldl World.alloc w).heap[k]? = w.heap[k]?
  | [], _, _, _ => rfl
  | o :: t, w, k, h => by rw [List.foldl_cons, allocs_old t _ _ (by rw [asize]; omega), Below.heap_alloc _ _ _ h]
theorem allocs_new : ∀ (os : List Obj) (w : World) (i : Nat) (o : Obj), os[i]? = some o → (os.foldl World.alloc w).heap[w.heap.size + i]? = some o
  | [], _, _, _, h => by simp at h
  | x :: t, w, 0, o, h => by
    simp at h
    subst h
    rw [List.foldl_cons, Nat.add_zero, allocs_old t _ _ (by rw [asize]; omega)]
    exact heap_alloc_new w x
  | x :: t, w, i + 1, o, h => by
    simp at h
    rw [List.foldl_cons, show w.heap.size + (i + 1) = (w.alloc x).heap.size + i by rw [asize]; omega]
    exact allocs_new t _ i o h
theorem allocs_grown (os : List Obj) (w : World) (row : Option Nat) : w.grownBy (os.foldl World.alloc w) row := by
  induction os generalizing w with
  | nil => exact grefl w row
  | cons o t ih => exact gtrans (World.grownBy_alloc w o row) (ih _)

theorem gbut {a c : World} (h : a.grownBy c none) (row : Option Nat) : a.grownBy c row := ⟨h.os, h.tape, h.output, h.size, fun i hi _ => h.block i hi (by simp)⟩
theorem cell_of_heap {w : World} {b : Nat} {cs : Array Value} {t : TypeId} {fr : Nat × Nat} (h : w.heap[b]? = some (.cells cs t fr)) (i : Nat) : w.cell? ⟨b, i, none⟩ = cs[i]? := by
  simp [World.cell?, h]

theorem gdrew {a b : World} {row : Option Nat} (h : a.grownBy b row) : a.grownBy b.drew row := ⟨h.os, h.tape, h.output, h.size, h.block⟩
theorem gdrewN {a b : World} {row : Option Nat} (h : a.grownBy b row) (q : Nat) : a.grownBy (b.drewN q) row := ⟨h.os, h.tape, h.output, h.size, h.block⟩
theorem gbelow {a b : World} (h : a.grownBy b none) : Below a.heap.size a b := ⟨h.os, h.tape, h.output, h.size, fun k hk => h.block k hk (by simp)⟩
theorem belowg {a b : World} (h : Below a.heap.size a b) : a.grownBy b none := ⟨h.os, h.tape, h.output, h.size, fun k hk _ => h.block k hk⟩
theorem gsome {a b : World} {rb : Nat} (h : a.grownBy b (some rb)) (hrb : a.heap.size ≤ rb) : a.grownBy b none :=
  ⟨h.os, h.tape, h.output, h.size, fun k hk _ => h.block k hk (by simp; omega)⟩
/-- what a world has, a later one that writes only behind it has too -/
theorem gjoin {a b c : World} {rb : Nat} (h : a.grownBy b none) (k : b.grownBy c (some rb)) (hrb : a.heap.size ≤ rb) : a.grownBy c none :=
  ⟨k.os.trans h.os, k.tape.trans h.tape, k.output.trans h.output, Nat.le_trans h.size k.size,
   fun i hi _ => (k.block i (Nat.lt_of_lt_of_le hi h.size) (by simp; omega)).trans (h.block i hi (by simp))⟩
end Go.Proofs.YtgljpgnmlpglnaaDoor
