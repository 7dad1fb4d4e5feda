/- unicode.SimpleFold returns, for every int32, what the plain function foldU says; it reads three tables of the library and writes nothing. -/
import Derived.Test.YtgljpgnmlpglnaaDoorPlain
import Derived.Test.YtgljpgnmlpglnaaDoorShelf
import Derived.WalkKit
import Derived.Deep.LoopGhost
import Derived.Lib.Hide
import Derived.Deep.DeepMust
import Derived.Shelf.Unicode.CaseLaid
namespace Go.Proofs.YtgljpgnmlpglnaaDoor
open Go.Shelf Go.RowKit Go.Lib Go.Ftx

/-- the three tables that SimpleFold reads, as their initialisers lay them -/
def OrbTab (R oR : Nat) (w : World) : Prop := ∀ i, i < 94 → w.cell? ⟨R, oR + i * 2, none⟩ = some (.int .u16 ((orbitA.getD i (0, 0)).1 : Nat)) ∧ w.cell? ⟨R, oR + i * 2 + 1, none⟩ = some (.int .u16 ((orbitA.getD i (0, 0)).2 : Nat))
def FoldTabs (w : World) : Prop :=
  (∀ i, i < 128 → w.cell? ⟨2, i, none⟩ = some (.int .u16 ((asciiT.getD i 0 : Nat) : Int))) ∧
  (∃ R oR cap, w.cell? ⟨3, 0, none⟩ = some (.slice (some ⟨R, oR, none⟩) 94 cap) ∧ OrbTab R oR w) ∧
  CaseVar 4 caseA w

set_option maxHeartbeats 1000000 in
theorem simpleFold_out (r : Int) (w : World) (h : r < 0 ∨ 1114111 < r) :
    Calls Tryd.prog 36 #[.int .i32 r] w fun e w' => e = .returned (.int .i32 r) ∧ w = w' := by
  rcases h with h | h
  · go_enter Tryd.func36, Tryd.ntmps36
    go_wp2
    go_ret
    exact ⟨rfl, rfl⟩
  · have h' : ¬ r < 0 := by omega
    go_enter Tryd.func36, Tryd.ntmps36
    go_wp2
    go_ret
    exact ⟨rfl, rfl⟩

theorem ascii_lt : ∀ i, i < 128 → asciiT.getD i 0 < 65536 := by decide +kernel

set_option maxHeartbeats 1000000 in
theorem simpleFold_ascii (r : Int) (w : World) (h0 : 0 ≤ r) (h1 : r < 128) (hc : w.cell? ⟨2, r.toNat, none⟩ = some (.int .u16 ((asciiT.getD r.toNat 0 : Nat) : Int))) :
    Calls Tryd.prog 36 #[.int .i32 r] w fun e w' => e = .returned (.int .i32 ((asciiT.getD r.toNat 0 : Nat) : Int)) ∧ w = w' := by
  have hl := ascii_lt r.toNat (by omega)
  generalize asciiT.getD r.toNat 0 = v at *
  have g0 : ¬ r < 0 := by omega
  have g1 : ¬ 1114111 < r := by omega
  go_enter Tryd.func36, Tryd.ntmps36
  go_wp2
  go_ret
  exact ⟨rfl, rfl⟩


theorem orb_lt : ∀ i, i < 94 → (orbitA.getD i (0, 0)).1 < 65536 ∧ (orbitA.getD i (0, 0)).2 < 65536 := by decide +kernel
theorem orbIdx_le (r : Int) : ∀ f lo hi, lo ≤ hi → orbIdx orbitA r f lo hi ≤ hi
  | 0, _, _, h => h
  | f + 1, lo, hi, h => by
    unfold orbIdx
    split
    · split
      · exact orbIdx_le r f _ hi (by omega)
      · exact Nat.le_trans (orbIdx_le r f lo _ (by omega)) (by omega)
    · exact h

set_option maxHeartbeats 2000000 in
set_option maxRecDepth 100000 in
theorem simpleFold_main (r : Int) (w : World) (h0 : 128 ≤ r) (h1 : r ≤ 1114111) (hT : FoldTabs w) :
    Calls Tryd.prog 36 #[.int .i32 r] w fun e w' => e = .returned (.int .i32 (foldU r)) ∧ ∃ q, w' = w.drewN q := by
  obtain ⟨-, ⟨R, oR, cap, hO, hOT⟩, ⟨R2, oR2, cap2, hC, hCT⟩⟩ := hT
  have cL := Tryd.unicode_lookupCaseRange caseA R2 oR2 cap2 r w hCT caseA_ok2.ok (by rw [Lib.caseA_size]; omega)
  have hfin : foldU r = if orbIdx orbitA r 95 0 94 < 94 ∧ ((orbitA.getD (orbIdx orbitA r 95 0 94) (0, 0)).1 : Int) = r then ((orbitA.getD (orbIdx orbitA r 95 0 94) (0, 0)).2 : Int) else foldCase r := by
    unfold foldU
    rw [if_neg (by omega), if_neg (by omega)]
  have hle := orbIdx_le r 95 0 94 (Nat.zero_le _)
  generalize hIDX : orbIdx orbitA r 95 0 94 = IDX at hfin hle
  unfold foldCase lookupGo at hfin
  generalize foldU r = OUT at hfin ⊢
  generalize hsz : caseA.size = N at hC cL hfin
  have hN : N = 336 := by rw [← hsz]; exact Lib.caseA_size
  have HN := Lib.hid hN
  have HSZ := Lib.hid hsz
  clear hN hsz
  have g0 : ¬ r < 0 := by omega
  have g1 : ¬ 1114111 < r := by omega
  have g2 : ¬ r < 128 := by omega
  have HF := Lib.hid hfin
  clear hfin
  go_enter Tryd.func36, Tryd.ntmps36
  go_wp2
  go_loopg [3, 4] 95 (fun g s3 s4 wx => wx = w ∧ ∃ lo hi : Nat, s3 = .int .i64 lo ∧ s4 = .int .i64 hi ∧ lo ≤ hi ∧ hi ≤ 94 ∧ hi - lo < g ∧ orbIdx orbitA r g lo hi = IDX)
  case atStart => exact ⟨rfl, 0, 94, rfl, rfl, Nat.zero_le _, Nat.le_refl _, by omega, hIDX⟩
  case round =>
    obtain ⟨rfl, lo, hi, rfl, rfl, hlh, hhn, hg, hl⟩ := hrel
    clear hIDX
    by_cases hlt : lo < hi
    · obtain ⟨g', rfl⟩ : ∃ g', gk = g' + 1 := ⟨gk - 1, by omega⟩
      have hz : (lo : Int) < (hi : Int) := by omega
      obtain ⟨m, hm⟩ : ∃ m, (lo + hi) / 2 = m := ⟨_, rfl⟩
      have hmr : lo ≤ m ∧ m < hi := by omega
      have hmz : ((lo : Int) + (hi : Int)) / 2 = (m : Int) := by omega
      obtain ⟨c0, -⟩ := hOT m (by omega)
      obtain ⟨o0, -⟩ := orb_lt m (by omega)
      simp only [orbIdx, hlt, if_true, hm] at hl
      generalize (orbitA.getD m (0, 0)).1 = F at c0 o0 hl
      clear hOT cL hCT hC
      by_cases hb : (F : Int) < r
      · rw [if_pos hb] at hl
        go_wp2
        go_roundg g'
        case measure => omega
        case rel => exact ⟨rfl, m + 1, hi, by first | rfl | simp, rfl, by omega, by omega, by omega, hl⟩
      · rw [if_neg hb] at hl
        go_wp2
        go_roundg g'
        case measure => omega
        case rel => exact ⟨rfl, lo, m, rfl, rfl, by omega, by omega, by omega, hl⟩
    · have hz : ¬ ((lo : Int) < (hi : Int)) := by omega
      have hn' : orbIdx orbitA r gk lo hi = lo := by cases gk <;> simp [orbIdx, hlt]
      rw [hn'] at hl
      subst hl
      clear hn' hlt hlh hg
      by_cases h2 : lo < 94
      · obtain ⟨c0, c1⟩ := hOT lo h2
        obtain ⟨o0, o1⟩ := orb_lt lo h2
        have hi2 : (lo : Int) < 94 := by omega
        by_cases h3 : ((orbitA.getD lo (0, 0)).1 : Int) = r
        · have hout := HF.out
          rw [if_pos ⟨h2, h3⟩] at hout
          clear HF
          have h3b : (((orbitA.getD lo (0, 0)).1 : Int) == r) = true := by simpa using h3
          generalize (orbitA.getD lo (0, 0)).1 = F at *
          generalize (orbitA.getD lo (0, 0)).2 = G at *
          clear hOT cL hCT hC
          subst hout
          go_wp2
          go_ret
          exact ⟨rfl, 0, rfl⟩
        · have h3b : (((orbitA.getD lo (0, 0)).1 : Int) == r) = false := by simpa using h3
          have hout := HF.out
          rw [if_neg (fun h => h3 h.2)] at hout
          generalize (orbitA.getD lo (0, 0)).1 = F at *
          generalize (orbitA.getD lo (0, 0)).2 = G at *
          clear HF hOT h3
          cases hi3 : lookupIdx caseA r (N + 1) 0 N with
          | none =>
            rw [hi3] at cL hout
            simp only [Option.map_none] at hout
            subst hout
            go_wp2_with (go_at_call 40; refine cL.mono ?_; rintro e w' ⟨rfl, rfl⟩)
            go_ret
            exact ⟨rfl, 0, rfl⟩
          | some i =>
            rw [hi3] at cL hout
            simp only [Option.map_some] at hout
            rw [← HSZ.out] at hi3
            obtain ⟨hil, hlo, hhi⟩ := lookupIdx_some caseA r _ _ _ i hi3
            have hr := caseA_row i hil
            have hok := (caseA_ok2 i hil).2
            have cC1 := fun W (hW : ∀ a, W.cell? a = wr.cell? a) => Tryd.unicode_convertCase 1 (by omega) r R2 (oR2 + i * 5) (caseA.getD i (0, 0, 0, 0, 0)) W hlo hhi hok ((hW _).trans (hCT i hil).1) ((hW _).trans (hCT.delta i hil 1 (by omega)))
            have cC0 := fun W (hW : ∀ a, W.cell? a = wr.cell? a) => Tryd.unicode_convertCase 0 (by omega) r R2 (oR2 + i * 5) (caseA.getD i (0, 0, 0, 0, 0)) W hlo hhi hok ((hW _).trans (hCT i hil).1) ((hW _).trans (hCT.delta i hil 0 (by omega)))
            rw [convert_fits _ hr 1 (by omega) r hlo hhi] at cC1
            rw [convert_fits _ hr 0 (by omega) r hlo hhi] at cC0
            generalize convertR 1 r (caseA.getD i (0, 0, 0, 0, 0)) = D1 at *
            generalize convertR 0 r (caseA.getD i (0, 0, 0, 0, 0)) = D0 at *
            have HC1 := Lib.hid cC1
            have HC0 := Lib.hid cC0
            clear cC1 cC0 hr hok hil hlo hhi hi3 hCT
            by_cases hd : D1 = r
            · rw [if_pos hd] at hout
              subst hd
              subst hout
              go_wp2_with (go_at_call 40; refine cL.mono ?_; rintro e w' ⟨rfl, rfl⟩)
              refine (HC1.out w' (fun _ => rfl)).mono ?_
              rintro e w' ⟨rfl, q, rfl⟩
              go_wp2_with fail
              refine (HC0.out (w'.drewN q) (fun _ => rfl)).mono ?_
              rintro e w' ⟨rfl, q2, rfl⟩
              go_wp2_with fail
              go_ret
              exact ⟨rfl, _, rfl⟩
            · rw [if_neg hd] at hout
              subst hout
              have hdb : (OUT != r) = true := by simpa using hd
              go_wp2_with (go_at_call 40; refine cL.mono ?_; rintro e w' ⟨rfl, rfl⟩)
              refine (HC1.out w' (fun _ => rfl)).mono ?_
              rintro e w' ⟨rfl, q, rfl⟩
              go_wp2_with fail
              go_ret
              exact ⟨rfl, _, rfl⟩
      · have hi2 : ¬ (lo : Int) < 94 := by omega
        have hout := HF.out
        rw [if_neg (fun h => h2 h.1)] at hout
        clear HF hOT
        cases hi3 : lookupIdx caseA r (N + 1) 0 N with
        | none =>
          rw [hi3] at cL hout
          simp only [Option.map_none] at hout
          subst hout
          go_wp2_with (go_at_call 40; refine cL.mono ?_; rintro e w' ⟨rfl, rfl⟩)
          go_ret
          exact ⟨rfl, 0, rfl⟩
        | some i =>
          rw [hi3] at cL hout
          simp only [Option.map_some] at hout
          rw [← HSZ.out] at hi3
          obtain ⟨hil, hlo, hhi⟩ := lookupIdx_some caseA r _ _ _ i hi3
          have hr := caseA_row i hil
          have hok := (caseA_ok2 i hil).2
          have cC1 := fun W (hW : ∀ a, W.cell? a = wr.cell? a) => Tryd.unicode_convertCase 1 (by omega) r R2 (oR2 + i * 5) (caseA.getD i (0, 0, 0, 0, 0)) W hlo hhi hok ((hW _).trans (hCT i hil).1) ((hW _).trans (hCT.delta i hil 1 (by omega)))
          have cC0 := fun W (hW : ∀ a, W.cell? a = wr.cell? a) => Tryd.unicode_convertCase 0 (by omega) r R2 (oR2 + i * 5) (caseA.getD i (0, 0, 0, 0, 0)) W hlo hhi hok ((hW _).trans (hCT i hil).1) ((hW _).trans (hCT.delta i hil 0 (by omega)))
          rw [convert_fits _ hr 1 (by omega) r hlo hhi] at cC1
          rw [convert_fits _ hr 0 (by omega) r hlo hhi] at cC0
          generalize convertR 1 r (caseA.getD i (0, 0, 0, 0, 0)) = D1 at *
          generalize convertR 0 r (caseA.getD i (0, 0, 0, 0, 0)) = D0 at *
          have HC1 := Lib.hid cC1
          have HC0 := Lib.hid cC0
          clear cC1 cC0 hr hok hil hlo hhi hi3 hCT
          by_cases hd : D1 = r
          · rw [if_pos hd] at hout
            subst hd
            subst hout
            go_wp2_with (go_at_call 40; refine cL.mono ?_; rintro e w' ⟨rfl, rfl⟩)
            refine (HC1.out w' (fun _ => rfl)).mono ?_
            rintro e w' ⟨rfl, q, rfl⟩
            go_wp2_with fail
            refine (HC0.out (w'.drewN q) (fun _ => rfl)).mono ?_
            rintro e w' ⟨rfl, q2, rfl⟩
            go_wp2_with fail
            go_ret
            exact ⟨rfl, _, rfl⟩
          · rw [if_neg hd] at hout
            subst hout
            have hdb : (OUT != r) = true := by simpa using hd
            go_wp2_with (go_at_call 40; refine cL.mono ?_; rintro e w' ⟨rfl, rfl⟩)
            refine (HC1.out w' (fun _ => rfl)).mono ?_
            rintro e w' ⟨rfl, q, rfl⟩
            go_wp2_with fail
            go_ret
            exact ⟨rfl, _, rfl⟩

/-- unicode.SimpleFold at every int32 -/
theorem simpleFold_any (r : Int) (w : World) (hT : FoldTabs w) :
    Calls Tryd.prog 36 #[.int .i32 r] w fun e w' => e = .returned (.int .i32 (foldU r)) ∧ ∃ q, w' = w.drewN q := by
  by_cases h : r < 0 ∨ 1114111 < r
  · rw [foldU_outside r h]
    exact (simpleFold_out r w h).mono fun _ _ ⟨he, hw⟩ => ⟨he, 0, hw.symm⟩
  · by_cases h1 : r < 128
    · have hf : foldU r = ((asciiT.getD r.toNat 0 : Nat) : Int) := by unfold foldU; rw [if_neg h, if_pos h1]
      rw [hf]
      exact (simpleFold_ascii r w (by omega) h1 (hT.1 r.toNat (by omega))).mono fun _ _ ⟨he, hw⟩ => ⟨he, 0, hw.symm⟩
    · exact simpleFold_main r w (by omega) (by omega) hT

theorem FoldTabs_below {w w' : World} (h : FoldTabs w) (hb : Below w.heap.size w w') : FoldTabs w' := by
  have k : ∀ {a : Addr} {v : Value}, w.cell? a = some v → w'.cell? a = some v := fun {a v} hc => (hb.cell (World.block_lt_of_cell? w a hc)).trans hc
  obtain ⟨h1, ⟨R, oR, cap, h2, h3⟩, ⟨R2, oR2, cap2, h4, h5⟩⟩ := h
  exact ⟨fun i hi => k (h1 i hi), ⟨R, oR, cap, k h2, fun i hi => ⟨k (h3 i hi).1, k (h3 i hi).2⟩⟩,
    ⟨R2, oR2, cap2, k h4, fun i hi => ⟨k (h5 i hi).1, k (h5 i hi).2.1, k (h5 i hi).2.2.1, k (h5 i hi).2.2.2.1, k (h5 i hi).2.2.2.2⟩⟩⟩

/-- the thin package's SimpleFold -/
theorem implFold_any (r : Int) (w : World) (hT : FoldTabs w) :
    Calls Tryd.prog 32 #[.int .i32 r] w fun e w' => e = .returned (.int .i32 (foldU r)) ∧ ∃ q, w' = w.drewN q := by
  have cF := simpleFold_any r w hT
  clear hT
  go_enter Tryd.func32, Tryd.ntmps32
  go_wp2_with (go_at_call 36; refine cF.mono ?_; rintro e w' ⟨rfl, q, rfl⟩)
  go_ret
  exact ⟨rfl, _, rfl⟩
end Go.Proofs.YtgljpgnmlpglnaaDoor
