/- laws.kinAll compares two lists of characters, one by one; spec.Valid; the thin package's EqualFold. -/
import Derived.Test.YtgljpgnmlpglnaaDoorEqS
import Derived.Test.YtgljpgnmlpglnaaDoorValid
import Derived.Test.YtgljpgnmlpglnaaDoorCharsW
import Derived.Deep.QuietTactic
import Derived.BigQuiet
namespace Go.Proofs.YtgljpgnmlpglnaaDoor
open Go.Shelf Go.RowKit Go.Lib Go.Ftx


theorem implEq_any (s t : ByteArray) (w : World) (hs : s.size ≤ 4611686018427387904) (ht : t.size ≤ 4611686018427387904) (hT : FoldTabs w) (hU : Utf8T w) :
    Calls Tryd.prog 15 #[.string s, .string t] w (BoolPost w (eqF s.data.toList t.data.toList)) := by
  have cE := Lib.hid (equalFold_any s t w hs ht hT hU)
  generalize eqF s.data.toList t.data.toList = ANS at *
  clear hT hU
  go_enter Tryd.func15, Tryd.ntmps15
  go_wp2_with fail
  refine cE.out.mono ?_
  rintro e w' ⟨rfl, hg⟩
  have HG := Lib.hid hg
  clear hg
  go_wp2_with fail
  go_ret
  exact ⟨rfl, HG.out⟩


theorem kinL_drop {xs ys : List Nat} {k : Nat} (ha : k < xs.length) (hb : k < ys.length) : kinL (xs.drop k) (ys.drop k) = (kinB ((xs.getD k 0 : Nat) : Int) ((ys.getD k 0 : Nat) : Int) && kinL (xs.drop (k + 1)) (ys.drop (k + 1))) := by
  rw [List.drop_eq_getElem_cons ha, List.drop_eq_getElem_cons hb]
  simp [kinL, List.getD, ha, hb]
theorem kinL_len : ∀ (xs ys : List Nat), xs.length ≠ ys.length → kinL xs ys = false
  | [], [], h => absurd rfl h
  | [], _ :: _, _ => rfl
  | _ :: _, [], _ => rfl
  | a :: xs, b :: ys, h => by
    rw [kinL, kinL_len xs ys (fun e => h (by simp [e])), Bool.and_false]

set_option maxHeartbeats 2000000 in
theorem kinAll_any (xs ys : List Nat) (g1 g2 c1 c2 : Nat) (w : World) (h1 : RunesAt w g1 xs) (h2 : RunesAt w g2 ys) (hl1 : xs.length ≤ 4611686018427387904) (hT : FoldTabs w) :
    Calls Tryd.prog 21 #[.slice (some ⟨g1, 0, none⟩) xs.length c1, .slice (some ⟨g2, 0, none⟩) ys.length c2] w (BoolPost w (kinL xs ys)) := by
  generalize hANS : kinL xs ys = ANS
  have HA := Lib.hid hANS
  have H1 := Lib.hid h1
  have H2 := Lib.hid h2
  have HT := Lib.hid hT
  clear hANS h1 h2 hT
  by_cases hlen : xs.length = ys.length
  · have hlb : ((xs.length : Int) != (ys.length : Int)) = false := by simp [hlen]
    obtain ⟨n, hn⟩ : ∃ n, xs.length = n := ⟨_, rfl⟩
    have HN := Lib.hid hn
    have HL := Lib.hid hlen
    rw [← hlen, hn] at hlb ⊢
    rw [hn] at hl1
    clear hlen hn
    go_enter Tryd.func21, Tryd.ntmps21
    go_wp2_with fail
    go_loopg [5] n (fun g s5 wx => ∃ k : Nat, k + g = n ∧ s5 = .int .i64 k ∧ Hid (kinL (xs.drop k) (ys.drop k) = ANS) ∧ Hid (w.grownBy wx none))
    case atStart => exact ⟨0, by omega, rfl, HA.out, grefl w none⟩
    case round =>
      obtain ⟨k, hk, rfl, HI, HG⟩ := hrel
      clear HA
      by_cases hlt : k < n
      · obtain ⟨g', rfl⟩ : ∃ g', gk = g' + 1 := ⟨gk - 1, by omega⟩
        have hz : (k : Int) < (n : Int) := by omega
        have hka : k < xs.length := by rw [HN.out]; exact hlt
        have hkb : k < ys.length := by rw [← HL.out]; exact hka
        have c1 := H1.out.grown HG.out k hka
        have c2 := H2.out.grown HG.out k hkb
        have HD := Lib.hid (kinL_drop hka hkb)
        have T1 := Lib.hid (HT.out.grown HG.out)
        clear hka hkb
        generalize ((xs.getD k 0 : Nat) : Int) = x at *
        generalize ((ys.getD k 0 : Nat) : Int) = y at *
        by_cases hkk : kinB x y = true
        · have HI' := Lib.hid (show kinL (xs.drop (k + 1)) (ys.drop (k + 1)) = ANS by rw [← HI.out, HD.out, hkk, Bool.true_and])
          have cK := Lib.hid fun (q : Nat) => kin_any x y (wr.drewN q) (T1.out.drewN q)
          rw [hkk] at cK
          clear hkk HD
          go_wp2_with fail
          go_quiet ((go_at_call 33; exact Calls.quiet_of (cK.out _)))
          go_wp2_with fail
          go_roundg g'
          case measure => omega
          case rel => exact ⟨k + 1, by omega, by first | rfl | simp, HI'.out, gdrewN HG.out _⟩
        · have hkf : kinB x y = false := by simpa using hkk
          have HE := Lib.hid (show ANS = false by rw [← HI.out, HD.out, hkf, Bool.false_and])
          have cK := Lib.hid fun (q : Nat) => kin_any x y (wr.drewN q) (T1.out.drewN q)
          rw [hkf] at cK
          clear hkk hkf HD
          go_wp2_with fail
          go_quiet ((go_at_call 33; exact Calls.quiet_of (cK.out _)))
          go_wp2_with fail
          go_ret
          exact ⟨congrArg (fun z => Ending.returned (.bool z)) HE.out.symm, gdrewN HG.out _⟩
      · have hz : ¬ (k : Int) < (n : Int) := by omega
        have HE := Lib.hid (show ANS = true by
          rw [← HI.out, List.drop_eq_nil_of_le (by rw [HN.out]; omega), List.drop_eq_nil_of_le (by rw [← HL.out, HN.out]; omega)]
          rfl)
        go_wp2_with fail
        go_ret
        exact ⟨congrArg (fun z => Ending.returned (.bool z)) HE.out.symm, HG.out⟩
  · have hlb : ((xs.length : Int) != (ys.length : Int)) = true := by simp; omega
    have HE := Lib.hid (show ANS = false by rw [← HA.out, kinL_len _ _ hlen])
    clear hlen
    go_enter Tryd.func21, Tryd.ntmps21
    go_wp2_with fail
    go_ret
    exact ⟨congrArg (fun z => Ending.returned (.bool z)) HE.out.symm, grefl w none⟩
end Go.Proofs.YtgljpgnmlpglnaaDoor
