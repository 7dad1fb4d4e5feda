/- The drawing of numbers: pick returns a number from 0 to n-1 and moves its place on by one; nothing else that was there changes. -/
import Derived.Test.YtgljpgnmlpglnaaDoorProg
import Derived.Test.YtgljpgnmlpglnaaDoorWorlds
import Derived.WalkKit
import Derived.Deep.QuietTactic
import Derived.BigQuiet
import Derived.Lib.Hide
import Derived.Laws.BitsAllLaws
import Derived.IntWalk
namespace Go.Proofs.YtgljpgnmlpglnaaDoor
open Go.RowKit Go.Lib

/-- the reader lies in block rb: the bytes bv, the place p -/
def RdAt (w : World) (rb : Nat) (bv : Value) (p : Nat) : Prop := w.heap[rb]? = some (.cells #[bv, .int .i64 p] 35 (0, 0))
/-- the bytes of the input: nil, or a row of bytes outside block rb -/
def BytesAt (w : World) (rb : Nat) (bv : Value) : Prop :=
  (∃ a cap, bv = .slice a 0 cap) ∨ ∃ b off len cap, bv = .slice (some ⟨b, off, none⟩) len cap ∧ len ≤ 1048576 ∧ ∀ i, i < len → b ≠ rb ∧ ∃ c : Nat, c < 256 ∧ w.cell? ⟨b, off + i, none⟩ = some (.int .u8 c)
def PickPost (w : World) (rb : Nat) (bv : Value) (p : Nat) (n : Int) (e : Ending) (w' : World) : Prop :=
  ∃ k : Nat, (k : Int) < n ∧ e = .returned (.int .i64 k) ∧ RdAt w' rb bv (p + 1) ∧ w.grownBy w' (some rb)

theorem rd_cells {w : World} {rb : Nat} {bv : Value} {p : Nat} (h : RdAt w rb bv p) :
    w.cell? ⟨rb, 0, none⟩ = some bv ∧ w.cell? ⟨rb, 1, none⟩ = some (.int .i64 p) ∧ w.frozen? ⟨rb, 0, none⟩ = false ∧ w.frozen? ⟨rb, 1, none⟩ = false ∧ rb < w.heap.size := by
  unfold RdAt at h
  have hlt : rb < w.heap.size := (Array.getElem?_eq_some_iff.1 h).1
  refine ⟨?_, ?_, ?_, ?_, hlt⟩ <;> simp [World.cell?, World.frozen?, h]

theorem rd_step {w : World} {rb : Nat} {bv : Value} {p : Nat} (h : RdAt w rb bv p) (q : Nat) :
    RdAt ((w.setCell ⟨rb, 1, none⟩ (.int .i64 (p + 1 : Nat))).drewN q) rb bv (p + 1) ∧ w.grownBy ((w.setCell ⟨rb, 1, none⟩ (.int .i64 (p + 1 : Nat))).drewN q) (some rb) := by
  unfold RdAt at h ⊢
  have hlt : rb < w.heap.size := (Array.getElem?_eq_some_iff.1 h).1
  refine ⟨?_, rfl, rfl, rfl, ?_, ?_⟩
  · show (w.setCell _ _).heap[rb]? = _
    simp [World.setCell, Array.getElem?_modify, h]
  · show w.heap.size ≤ (w.setCell _ _).heap.size
    simp [World.setCell]
  · intro k hk hne
    show (w.setCell _ _).heap[k]? = _
    exact Below.heap_setCell _ _ _ _ (by intro e; apply hne; rw [e])

set_option maxHeartbeats 1000000 in
theorem pick_empty (w : World) (rb : Nat) (a : Option Addr) (cap : Nat) (p : Nat) (n : Int) (h : RdAt w rb (.slice a 0 cap) p) (hp : p ≤ 1000000) (hn : 1 ≤ n) :
    Calls Tryd.prog 26 #[.pointer (some ⟨rb, 0, none⟩), .int .i64 n] w (PickPost w rb (.slice a 0 cap) p n) := by
  obtain ⟨c0, c1, f0, f1, hlt⟩ := rd_cells h
  have hs := rd_step h 0
  have HS := Lib.hid hs
  clear hs h
  have hn' : ¬ n < 1 := by omega
  go_enter Tryd.func26, Tryd.ntmps26
  go_wp2
  go_ret
  exact ⟨0, by omega, rfl, HS.out⟩

set_option maxHeartbeats 1000000 in
theorem pick_near (w : World) (rb : Nat) (b off len cap p : Nat) (n : Int) (c : Nat) (h : RdAt w rb (.slice (some ⟨b, off, none⟩) len cap) p) (hp : p < len) (hl : len ≤ 1048576) (hn : 1 ≤ n) (hn2 : n ≤ 1000000) (hb : b ≠ rb)
    (hc : c < 256) (hcell : w.cell? ⟨b, off + p, none⟩ = some (.int .u8 c)) :
    Calls Tryd.prog 26 #[.pointer (some ⟨rb, 0, none⟩), .int .i64 n] w (PickPost w rb (.slice (some ⟨b, off, none⟩) len cap) p n) := by
  obtain ⟨c0, c1, f0, f1, hlt⟩ := rd_cells h
  have hs := rd_step h 0
  have HS := Lib.hid hs
  clear hs h
  have hn' : ¬ n < 1 := by omega
  have hl0 : ((len : Int) == 0) = false := by rw [beq_eq_false_iff_ne]; omega
  have hm : (c : Int) % n < n ∧ 0 ≤ (c : Int) % n := ⟨Int.emod_lt_of_pos _ (by omega), Int.emod_nonneg _ (by omega)⟩
  go_enter Tryd.func26, Tryd.ntmps26
  go_wp2
  go_ret
  exact ⟨((c : Int) % n).toNat, by omega, congrArg (fun z => Ending.returned (.int .i64 z)) (Int.toNat_of_nonneg hm.2).symm, HS.out⟩

theorem i64_xor (a b : Nat) (ha : a < 4611686018427387904) (hb : b < 4611686018427387904) : bits .xor .i64 (a : Int) (b : Int) = ((a ^^^ b : Nat) : Int) := by
  have hx : a ^^^ b < 2 ^ 62 := Nat.xor_lt_two_pow (by omega) (by omega)
  show IntKind.i64.wrap ((BitVec.ofInt 64 (a : Int) ^^^ BitVec.ofInt 64 (b : Int)).toNat : Int) = _
  rw [BitVec.toNat_xor, ofInt_u64 a (by omega), ofInt_u64 b (by omega)]
  simp [IntKind.wrap, IntKind.bits, IntKind.signed]
  omega

set_option maxHeartbeats 4000000 in
set_option maxRecDepth 100000 in
theorem pick_far (w : World) (rb : Nat) (b off len cap p : Nat) (n : Int) (c d : Nat) (h : RdAt w rb (.slice (some ⟨b, off, none⟩) len cap) p) (hp : len ≤ p) (hp2 : p ≤ 1000000) (hl1 : 1 ≤ len) (hl : len ≤ 1048576) (hn : 1 ≤ n) (hn2 : n ≤ 1000000) (hb : b ≠ rb)
    (hc : c < 256) (hcell : w.cell? ⟨b, off + p % len, none⟩ = some (.int .u8 c)) (hd : d < 256) (hdell : w.cell? ⟨b, off + (p * 7 + 3) % len, none⟩ = some (.int .u8 d)) :
    Calls Tryd.prog 26 #[.pointer (some ⟨rb, 0, none⟩), .int .i64 n] w (PickPost w rb (.slice (some ⟨b, off, none⟩) len cap) p n) := by
  obtain ⟨c0, c1, f0, f1, hlt⟩ := rd_cells h
  have hs := rd_step h
  have HS := Lib.hid hs
  clear hs h
  have hn' : ¬ n < 1 := by omega
  have hl0 : ((len : Int) == 0) = false := by rw [beq_eq_false_iff_ne]; omega
  obtain ⟨m1, em1⟩ : ∃ m1 : Nat, (p : Int).tmod (len : Int) = (m1 : Int) ∧ p % len = m1 := ⟨p % len, by rw [Int.tmod_eq_emod_of_nonneg (by omega)]; omega, rfl⟩
  obtain ⟨k7, ek7, vk7⟩ : ∃ k7 : Nat, IntKind.i64.wrap ((p : Int) * 7) = (k7 : Int) ∧ k7 = p * 7 := ⟨p * 7, by rw [IntWalk.i64_in _ (by omega)]; omega, rfl⟩
  obtain ⟨k8, ek8, vk8⟩ : ∃ k8 : Nat, IntKind.i64.wrap ((k7 : Int) + 3) = (k8 : Int) ∧ k8 = k7 + 3 := ⟨k7 + 3, by rw [IntWalk.i64_in _ (by omega)]; omega, rfl⟩
  obtain ⟨m2, em2⟩ : ∃ m2 : Nat, (k8 : Int).tmod (len : Int) = (m2 : Int) ∧ (p * 7 + 3) % len = m2 := ⟨(p * 7 + 3) % len, by rw [Int.tmod_eq_emod_of_nonneg (by omega)]; rw [vk8, vk7]; omega, rfl⟩
  obtain ⟨x1, ex1, vx1⟩ : ∃ x1 : Nat, IntKind.i64.wrap ((c : Int) * 131) = (x1 : Int) ∧ x1 = c * 131 := ⟨c * 131, by rw [IntWalk.i64_in _ (by omega)]; omega, rfl⟩
  obtain ⟨x2, ex2, vx2⟩ : ∃ x2 : Nat, IntKind.i64.wrap ((d : Int) * 1117) = (x2 : Int) ∧ x2 = d * 1117 := ⟨d * 1117, by rw [IntWalk.i64_in _ (by omega)]; omega, rfl⟩
  obtain ⟨x3, ex3, vx3⟩ : ∃ x3 : Nat, IntKind.i64.wrap ((x1 : Int) + (x2 : Int)) = (x3 : Int) ∧ x3 = x1 + x2 := ⟨x1 + x2, by rw [IntWalk.i64_in _ (by omega)]; omega, rfl⟩
  obtain ⟨x4, ex4, vx4⟩ : ∃ x4 : Nat, IntKind.i64.wrap ((p : Int) * 29) = (x4 : Int) ∧ x4 = p * 29 := ⟨p * 29, by rw [IntWalk.i64_in _ (by omega)]; omega, rfl⟩
  obtain ⟨x5, ex5, vx5⟩ : ∃ x5 : Nat, IntKind.i64.wrap ((x3 : Int) + (x4 : Int)) = (x5 : Int) ∧ x5 = x3 + x4 := ⟨x3 + x4, by rw [IntWalk.i64_in _ (by omega)]; omega, rfl⟩
  obtain ⟨x6, ex6, vx6⟩ : ∃ x6 : Nat, (p : Int).tdiv (len : Int) = (x6 : Int) ∧ x6 ≤ p := ⟨p / len, by rw [Int.tdiv_eq_ediv_of_nonneg (by omega)]; omega, Nat.div_le_self _ _⟩
  have ew6 : IntKind.i64.wrap (x6 : Int) = (x6 : Int) := IntWalk.i64_in _ (by omega)
  obtain ⟨x7, ex7, vx7⟩ : ∃ x7 : Nat, IntKind.i64.wrap ((x6 : Int) * 53) = (x7 : Int) ∧ x7 = x6 * 53 := ⟨x6 * 53, by rw [IntWalk.i64_in _ (by omega)]; omega, rfl⟩
  obtain ⟨x8, ex8, vx8⟩ : ∃ x8 : Nat, IntKind.i64.wrap ((x5 : Int) + (x7 : Int)) = (x8 : Int) ∧ x8 = x5 + x7 := ⟨x5 + x7, by rw [IntWalk.i64_in _ (by omega)]; omega, rfl⟩
  have b8 : x8 ≤ 1000000000 := by omega
  obtain ⟨em1, vm1⟩ := em1
  obtain ⟨em2, vm2⟩ := em2
  rw [vm1] at hcell
  rw [vm2] at hdell
  have i1 : m1 < len := by rw [← vm1]; exact Nat.mod_lt _ (by omega)
  have i2 : m2 < len := by rw [← vm2]; exact Nat.mod_lt _ (by omega)
  have j1 : (m1 : Int) < (len : Int) := by omega
  have j2 : (m2 : Int) < (len : Int) := by omega
  clear vm1 vm2 vk7 vk8 vx1 vx2 vx3 vx4 vx5 vx6 vx7 vx8
  go_enter Tryd.func26, Tryd.ntmps26
  go_wp2
  go_quiet (fail)
  clear em1 ek7 ek8 em2 ex1 ex2 ex3 ex4 ex5 ex6 ex7 ex8 ew6
  obtain ⟨y, ey, by8⟩ : ∃ y : Nat, bits .xor .i64 (x8 : Int) ((x8 : Int) / 64) = (y : Int) ∧ y < 1073741824 := by
    refine ⟨x8 ^^^ x8 / 64, ?_, Nat.xor_lt_two_pow (n := 30) (by omega) (by omega)⟩
    rw [show ((x8 : Int) / 64) = ((x8 / 64 : Nat) : Int) from by omega]
    exact i64_xor x8 (x8 / 64) (by omega) (by omega)
  go_wp2
  go_ret
  have hm : (y : Int) % n < n ∧ 0 ≤ (y : Int) % n := ⟨Int.emod_lt_of_pos _ (by omega), Int.emod_nonneg _ (by omega)⟩
  exact ⟨((y : Int) % n).toNat, by omega, congrArg (fun z => Ending.returned (.int .i64 z)) (Int.toNat_of_nonneg hm.2).symm, HS.out nq⟩

/-- pick, whatever the bytes are -/
theorem pick_any (w : World) (rb : Nat) (bv : Value) (p : Nat) (n : Int) (h : RdAt w rb bv p) (hB : BytesAt w rb bv) (hp : p ≤ 1000000) (hn : 1 ≤ n) (hn2 : n ≤ 1000000) :
    Calls Tryd.prog 26 #[.pointer (some ⟨rb, 0, none⟩), .int .i64 n] w (PickPost w rb bv p n) := by
  rcases hB with ⟨a, cap, rfl⟩ | ⟨b, off, len, cap, rfl, hl, hc⟩
  · exact pick_empty w rb a cap p n h hp hn
  · by_cases h0 : len = 0
    · subst h0
      exact pick_empty w rb _ cap p n h hp hn
    · by_cases h1 : p < len
      · obtain ⟨hb, c, hc1, hc2⟩ := hc p h1
        exact pick_near w rb b off len cap p n c h h1 hl hn hn2 hb hc1 hc2
      · obtain ⟨hb, c, hc1, hc2⟩ := hc (p % len) (Nat.mod_lt _ (by omega))
        obtain ⟨_, d, hd1, hd2⟩ := hc ((p * 7 + 3) % len) (Nat.mod_lt _ (by omega))
        exact pick_far w rb b off len cap p n c d h (by omega) hp (by omega) hl hn hn2 hb hc1 hc2 hd1 hd2

/-- what was there stays, but for the reader's own block -/
theorem BytesAt.kept {w w' : World} {rb : Nat} {bv : Value} (h : BytesAt w rb bv) (hg : w.grownBy w' (some rb)) : BytesAt w' rb bv := by
  rcases h with ⟨a, cap, rfl⟩ | ⟨b, off, len, cap, rfl, hl, hc⟩
  · exact .inl ⟨a, cap, rfl⟩
  · exact .inr ⟨b, off, len, cap, rfl, hl, fun i hi => let ⟨hb, c, h1, h2⟩ := hc i hi; ⟨hb, c, h1, hg.cell h2 (by simpa using hb)⟩⟩

/-- the input of a law: nil, or a row of at most 2^20 bytes -/
def CodeAt (w : World) (bv : Value) : Prop :=
  (∃ a cap, bv = .slice a 0 cap) ∨ ∃ b off len cap, bv = .slice (some ⟨b, off, none⟩) len cap ∧ len ≤ 1048576 ∧ len ≤ cap ∧ cap ≤ 9223372036854775807 ∧ ∀ i, i < len → ∃ c : Nat, c < 256 ∧ w.cell? ⟨b, off + i, none⟩ = some (.int .u8 c)
theorem CodeAt.kept {w w' : World} {bv : Value} (h : CodeAt w bv) (hg : w.grownBy w' none) : CodeAt w' bv := by
  rcases h with ⟨a, cap, rfl⟩ | ⟨b, off, len, cap, rfl, hl, hl2, hl3, hc⟩
  · exact .inl ⟨a, cap, rfl⟩
  · exact .inr ⟨b, off, len, cap, rfl, hl, hl2, hl3, fun i hi => let ⟨c, h1, h2⟩ := hc i hi; ⟨c, h1, hg.cell h2 (by simp)⟩⟩
/-- the reader is made -/
theorem CodeAt.reader {w : World} {bv : Value} (h : CodeAt w bv) :
    RdAt (w.alloc (.cells #[bv, .int .i64 0] 35)) w.heap.size bv 0 ∧ BytesAt (w.alloc (.cells #[bv, .int .i64 0] 35)) w.heap.size bv := by
  refine ⟨heap_alloc_new w _, ?_⟩
  rcases h with ⟨a, cap, rfl⟩ | ⟨b, off, len, cap, rfl, hl, hl2, hl3, hc⟩
  · exact .inl ⟨a, cap, rfl⟩
  · refine .inr ⟨b, off, len, cap, rfl, hl, fun i hi => ?_⟩
    obtain ⟨c, h1, h2⟩ := hc i hi
    have hlt := World.block_lt_of_cell? w _ h2
    exact ⟨by simp at hlt; omega, c, h1, (World.grownBy_alloc w _ none).cell h2 (by simp)⟩
def TruePost (w : World) (e : Ending) (w' : World) : Prop := e = .returned (.bool true) ∧ w.grownBy w' none
/-- the input of a law, of whatever length -/
def CodeV (w : World) (bv : Value) : Prop :=
  (∃ a cap, bv = .slice a 0 cap) ∨ ∃ b off len cap, bv = .slice (some ⟨b, off, none⟩) len cap ∧ len ≤ cap ∧ cap ≤ 9223372036854775807 ∧ ∀ i, i < len → ∃ c : Nat, c < 256 ∧ w.cell? ⟨b, off + i, none⟩ = some (.int .u8 c)
theorem CodeV.split {w : World} {bv : Value} (h : CodeV w bv) : (∃ a len cap, bv = .slice a len cap ∧ 1048576 < len ∧ len ≤ 9223372036854775807) ∨ ((∃ a len cap, bv = .slice a len cap ∧ len ≤ 1048576) ∧ CodeAt w bv) := by
  rcases h with ⟨a, cap, rfl⟩ | ⟨b, off, len, cap, rfl, hl, hl2, hc⟩
  · exact .inr ⟨⟨_, _, _, rfl, by omega⟩, .inl ⟨a, cap, rfl⟩⟩
  · by_cases h : 1048576 < len
    · exact .inl ⟨_, _, _, rfl, h, by omega⟩
    · exact .inr ⟨⟨_, _, _, rfl, by omega⟩, .inr ⟨b, off, len, cap, rfl, by omega, hl, hl2, hc⟩⟩

/-- a slice of bytes that holds the list l -/
def BytesL (w : World) (v : Value) (l : List UInt8) : Prop :=
  (∃ a cap, v = .slice a 0 cap ∧ l = []) ∨ ∃ b off cap, v = .slice (some ⟨b, off, none⟩) l.length cap ∧ l.length ≤ cap ∧ cap ≤ 9223372036854775807 ∧ ∀ i, i < l.length → w.cell? ⟨b, off + i, none⟩ = some (.int .u8 ((l.getD i 0).toNat : Int))
theorem BytesL.code {w : World} {v : Value} {l : List UInt8} (h : BytesL w v l) : CodeV w v := by
  rcases h with ⟨a, cap, rfl, _⟩ | ⟨b, off, cap, rfl, hl, hl2, hc⟩
  · exact .inl ⟨a, cap, rfl⟩
  · exact .inr ⟨b, off, _, cap, rfl, hl, hl2, fun i hi => ⟨(l.getD i 0).toNat, UInt8.toNat_lt _, hc i hi⟩⟩
theorem BytesL.kept {w w' : World} {v : Value} {l : List UInt8} (h : BytesL w v l) (hg : w.grownBy w' none) : BytesL w' v l := by
  rcases h with ⟨a, cap, rfl, e⟩ | ⟨b, off, cap, rfl, hl, hl2, hc⟩
  · exact .inl ⟨a, cap, rfl, e⟩
  · exact .inr ⟨b, off, cap, rfl, hl, hl2, fun i hi => hg.cell (hc i hi) (by simp)⟩
end Go.Proofs.YtgljpgnmlpglnaaDoor
