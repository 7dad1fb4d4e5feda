/- The drawing of letters: families, of, letter: each returns a string of one to four bytes out of a fixed list and moves the reader's place on. -/
import Derived.Test.YtgljpgnmlpglnaaDoorPick
namespace Go.Proofs.YtgljpgnmlpglnaaDoor
open Go.RowKit Go.Lib

theorem RdAt.lt {w : World} {rb : Nat} {bv : Value} {p : Nat} (h : RdAt w rb bv p) : rb < w.heap.size := (Array.getElem?_eq_some_iff.1 h).1
theorem RdAt.alloc {w : World} {rb : Nat} {bv : Value} {p : Nat} (h : RdAt w rb bv p) (o : Obj) : RdAt (w.alloc o) rb bv p := by
  unfold RdAt
  rw [Below.heap_alloc _ _ _ h.lt]
  exact h

/-- a row of strings, each of lo to hi bytes, outside the block rb -/
def StrsAt (w : World) (rb : Nat) (lv : Value) (lo hi : Nat) : Prop :=
  ∃ b off m cap, lv = .slice (some ⟨b, off, none⟩) m cap ∧ 1 ≤ m ∧ m ≤ 1000 ∧ b ≠ rb ∧ ∀ i, i < m → ∃ s : ByteArray, lo ≤ s.size ∧ s.size ≤ hi ∧ w.cell? ⟨b, off + i, none⟩ = some (.string s)
theorem StrsAt.kept {w w' : World} {rb : Nat} {lv : Value} {lo hi : Nat} (h : StrsAt w rb lv lo hi) (hg : w.grownBy w' (some rb)) : StrsAt w' rb lv lo hi := by
  obtain ⟨b, off, m, cap, rfl, h1, h2, h3, h4⟩ := h
  exact ⟨b, off, m, cap, rfl, h1, h2, h3, fun i hi => let ⟨s, a, b', c⟩ := h4 i hi; ⟨s, a, b', hg.cell c (by simpa using h3)⟩⟩

def LetPost (w : World) (rb : Nat) (bv : Value) (p lo hi : Nat) (e : Ending) (w' : World) : Prop :=
  ∃ s : ByteArray, lo ≤ s.size ∧ s.size ≤ hi ∧ e = .returned (.string s) ∧ RdAt w' rb bv p ∧ w.grownBy w' (some rb)

set_option maxHeartbeats 1000000 in
theorem of_any (w : World) (rb : Nat) (bv lv : Value) (p lo hi : Nat) (h : RdAt w rb bv p) (hB : BytesAt w rb bv) (hp : p ≤ 1000000) (hS : StrsAt w rb lv lo hi) :
    Calls Tryd.prog 27 #[.pointer (some ⟨rb, 0, none⟩), lv] w (LetPost w rb bv (p + 1) lo hi) := by
  obtain ⟨b, off, m, cap, rfl, h1, h2, h3, h4⟩ := hS
  have HP := Lib.hid (pick_any w rb bv p m h hB hp (by omega) (by omega))
  have H4 := Lib.hid h4
  clear h4 h hB
  go_enter Tryd.func27, Tryd.ntmps27
  go_wp2_with fail
  refine HP.out.mono ?_
  rintro e w' ⟨k, hk, rfl, hR, hg⟩
  obtain ⟨s, s1, s2, s3⟩ := H4.out k (by omega)
  have s4 := hg.cell s3 (by simpa using h3)
  have HR := Lib.hid hR
  have HG := Lib.hid hg
  clear s3 hR hg
  have hk0 : (k : Int) < (m : Int) := hk
  go_wp2_with fail
  go_ret
  exact ⟨s, s1, s2, rfl, HR.out, HG.out⟩

def famL : List (List (List UInt8)) := [[[97], [65]], [[107], [75], [226, 132, 170]], [[115], [83], [197, 191]], [[105], [73]], [[122], [90]], [[195, 169], [195, 137]], [[195, 159], [225, 186, 158]], [[207, 131], [207, 130], [206, 163]], [[199, 134], [199, 133], [199, 132]], [[194, 181], [206, 188], [206, 156]], [[196, 177]], [[196, 176]], [[49]], [[45]], [[91]], [[64]], [[226, 130, 172]], [[240, 159, 152, 128]], [[240, 144, 144, 128], [240, 144, 144, 168]], [[226, 147, 144], [226, 146, 182]], [[205, 133], [206, 153], [206, 185], [225, 190, 190]], [[239, 191, 189]], [[0]]]
def strRow (l : List (List UInt8)) : Obj := .cells (l.map fun s => Value.string ⟨s.toArray⟩).toArray 9
/-- what a literal of rows of strings lays: a block a row, and one that leads to them -/
def listObjs (L : List (List (List UInt8))) (n : Nat) : List Obj :=
  L.map strRow ++ [.cells ((List.range L.length).map fun i => Value.slice (some ⟨n + i, 0, none⟩) (L.getD i []).length (L.getD i []).length).toArray 39]
def famObjs (n : Nat) : List Obj := listObjs famL n

set_option maxHeartbeats 1000000 in
theorem families_any (w : World) : Calls Tryd.prog 25 #[] w fun e w' => e = .returned (.slice (some ⟨w.heap.size + 23, 0, none⟩) 23 23) ∧ (famObjs w.heap.size).foldl World.alloc w = w' := by
  go_enter Tryd.func25, Tryd.ntmps25
  go_wp2
  go_ret
  exact ⟨rfl, rfl⟩

/-- a row of such rows -/
def ListsAt (w : World) (rb : Nat) (fb m lo hi : Nat) : Prop :=
  fb ≠ rb ∧ ∀ i, i < m → ∃ lv, w.cell? ⟨fb, i, none⟩ = some lv ∧ StrsAt w rb lv lo hi
theorem ListsAt.kept {w w' : World} {rb fb m lo hi : Nat} (h : ListsAt w rb fb m lo hi) (hg : w.grownBy w' (some rb)) : ListsAt w' rb fb m lo hi :=
  ⟨h.1, fun i hi => let ⟨lv, a, b⟩ := h.2 i hi; ⟨lv, hg.cell a (by simpa using h.1), b.kept hg⟩⟩
def listsOk (L : List (List (List UInt8))) (lo hi : Nat) : Bool :=
  L.all fun r => decide (1 ≤ r.length) && decide (r.length ≤ 1000) && r.all fun x => decide (lo ≤ x.length) && decide (x.length ≤ hi)
theorem strs_new (w : World) (rb : Nat) (hrb : rb < w.heap.size) (l : List (List UInt8)) (lo hi : Nat) (h1 : 1 ≤ l.length) (h2 : l.length ≤ 1000) (h3 : ∀ x ∈ l, lo ≤ x.length ∧ x.length ≤ hi)
    {W : World} (n : Nat) (hn : w.heap.size ≤ n) (hW : W.heap[n]? = some (strRow l)) : StrsAt W rb (.slice (some ⟨n, 0, none⟩) l.length l.length) lo hi := by
  refine ⟨n, 0, _, _, rfl, h1, h2, by omega, fun j hj => ?_⟩
  obtain ⟨h4, h5⟩ := h3 l[j] (List.getElem_mem hj)
  refine ⟨⟨l[j].toArray⟩, by simpa [ByteArray.size] using h4, by simpa [ByteArray.size] using h5, ?_⟩
  rw [cell_of_heap hW, Nat.zero_add]
  simp [hj]
theorem lists_new (L : List (List (List UInt8))) (lo hi : Nat) (hL : listsOk L lo hi = true) (w : World) (rb : Nat) (hrb : rb < w.heap.size) :
    ListsAt ((listObjs L w.heap.size).foldl World.alloc w) rb (w.heap.size + L.length) L.length lo hi := by
  refine ⟨by omega, fun i hi => ⟨.slice (some ⟨w.heap.size + i, 0, none⟩) (L.getD i []).length (L.getD i []).length, ?_, ?_⟩⟩
  · have ho : (listObjs L w.heap.size)[L.length]? = some (.cells ((List.range L.length).map fun i => Value.slice (some ⟨w.heap.size + i, 0, none⟩) (L.getD i []).length (L.getD i []).length).toArray 39) := by
      unfold listObjs
      rw [List.getElem?_append_right (by simp)]
      simp
    rw [cell_of_heap (allocs_new _ w _ _ ho) i]
    simp [hi]
  · have hg : L.getD i [] = L[i] := by simp [List.getD, hi]
    rw [hg]
    have h0 := List.all_eq_true.1 hL L[i] (List.getElem_mem hi)
    simp only [Bool.and_eq_true, decide_eq_true_eq] at h0
    have ho : (listObjs L w.heap.size)[i]? = some (strRow L[i]) := by
      unfold listObjs
      rw [List.getElem?_append_left (by simpa using hi)]
      simp [hi]
    refine strs_new w rb hrb _ _ _ h0.1.1 h0.1.2 (fun x hx => ?_) _ (by omega) (allocs_new _ w _ _ ho)
    have := List.all_eq_true.1 h0.2 x hx
    simpa using this
theorem fam_lists (w : World) (rb : Nat) (hrb : rb < w.heap.size) : ListsAt ((famObjs w.heap.size).foldl World.alloc w) rb (w.heap.size + 23) 23 1 4 := lists_new famL 1 4 (by decide +kernel) w rb hrb
def FamPost (w : World) (rb : Nat) (e : Ending) (w' : World) : Prop :=
  ∃ fb, e = .returned (.slice (some ⟨fb, 0, none⟩) 23 23) ∧ ListsAt w' rb fb 23 1 4 ∧ w.grownBy w' none
theorem families_at (w : World) (rb : Nat) (hrb : rb < w.heap.size) : Calls Tryd.prog 25 #[] w (FamPost w rb) :=
  (families_any w).mono fun _ _ ⟨he, hw⟩ => ⟨_, he, hw ▸ fam_lists w rb hrb, hw ▸ allocs_grown _ w none⟩
theorem RdAt.kept {w w' : World} {rb : Nat} {bv : Value} {p : Nat} (h : RdAt w rb bv p) (hg : w.grownBy w' none) : RdAt w' rb bv p := by
  unfold RdAt
  rw [hg.block rb h.lt (by simp)]
  exact h

set_option maxHeartbeats 1000000 in
theorem letter_any (w : World) (rb : Nat) (bv : Value) (p : Nat) (h : RdAt w rb bv p) (hB : BytesAt w rb bv) (hp : p ≤ 999900) :
    Calls Tryd.prog 28 #[.pointer (some ⟨rb, 0, none⟩)] w (LetPost w rb bv (p + 3) 1 4) := by
  have hlt := h.lt
  have HB := Lib.hid hB
  have HR := Lib.hid h
  clear hB h
  go_enter Tryd.func28, Tryd.ntmps28
  go_wp2_with fail
  refine (families_at _ rb hlt).mono ?_
  rintro e w1 ⟨fb, rfl, hL, hg1⟩
  have R1 := Lib.hid (HR.out.kept hg1)
  have G1 := Lib.hid (gbut hg1 (some rb))
  have B1 := Lib.hid (HB.out.kept G1.out)
  have L1 := Lib.hid hL
  clear hg1 hL HR HB
  go_wp2_with fail
  refine (pick_any _ rb bv p 2 R1.out B1.out (by omega) (by omega) (by omega)).mono ?_
  rintro e w2 ⟨k, hk, rfl, hR2, hg2⟩
  have R2 := Lib.hid hR2
  have G2 := Lib.hid (gtrans G1.out hg2)
  have B2 := Lib.hid (B1.out.kept hg2)
  have L2 := Lib.hid (L1.out.kept hg2)
  clear hR2 hg2 G1 B1 L1 R1
  by_cases hk0 : k = 0
  · subst hk0
    go_wp2_with fail
    refine (pick_any _ rb bv (p + 1) 5 R2.out B2.out (by omega) (by omega) (by omega)).mono ?_
    rintro e w3 ⟨k, hk, rfl, hR3, hg3⟩
    have G3 := Lib.hid (gtrans G2.out hg3)
    have B3 := Lib.hid (B2.out.kept hg3)
    have R3 := Lib.hid hR3
    obtain ⟨lv, hc, hS⟩ := (L2.out.kept hg3).2 k (by omega)
    have S3 := Lib.hid hS
    clear hR3 hg3 G2 B2 R2 L2 hS
    go_wp2_with fail
    refine (of_any _ rb bv lv (p + 2) 1 4 R3.out B3.out (by omega) S3.out).mono ?_
    rintro e w4 ⟨s, s1, s2, rfl, hR4, hg4⟩
    have G4 := Lib.hid (gtrans G3.out hg4)
    have R4 := Lib.hid hR4
    clear hR4 hg4 G3 B3 R3 S3 hc
    go_wp2_with fail
    go_ret
    exact ⟨s, s1, s2, rfl, R4.out, G4.out⟩
  · have hkb : ((k : Int) == 0) = false := by rw [beq_eq_false_iff_ne]; omega
    go_wp2_with fail
    refine (pick_any _ rb bv (p + 1) 23 R2.out B2.out (by omega) (by omega) (by omega)).mono ?_
    rintro e w3 ⟨k, hk, rfl, hR3, hg3⟩
    have G3 := Lib.hid (gtrans G2.out hg3)
    have B3 := Lib.hid (B2.out.kept hg3)
    have R3 := Lib.hid hR3
    obtain ⟨lv, hc, hS⟩ := (L2.out.kept hg3).2 k (by omega)
    have S3 := Lib.hid hS
    clear hR3 hg3 G2 B2 R2 L2 hS
    go_wp2_with fail
    refine (of_any _ rb bv lv (p + 2) 1 4 R3.out B3.out (by omega) S3.out).mono ?_
    rintro e w4 ⟨s, s1, s2, rfl, hR4, hg4⟩
    have G4 := Lib.hid (gtrans G3.out hg4)
    have R4 := Lib.hid hR4
    clear hR4 hg4 G3 B3 R3 S3 hc
    go_wp2_with fail
    go_ret
    exact ⟨s, s1, s2, rfl, R4.out, G4.out⟩
end Go.Proofs.YtgljpgnmlpglnaaDoor
