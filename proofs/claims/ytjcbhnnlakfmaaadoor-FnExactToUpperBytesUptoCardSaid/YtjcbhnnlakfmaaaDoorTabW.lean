/- Tables of rules: what a table says of a character (imgT), and the functions that read or copy one. Written by gen_tab.py. -/
import Derived.Test.YtjcbhnnlakfmaaaDoorText
import Derived.Test.YtjcbhnnlakfmaaaDoorPlainC
import Derived.Test.YtjcbhnnlakfmaaaDoorValid
import Derived.WalkMore
import Derived.Deep.RegionHeld3
import Derived.Deep.AppendLies
import Derived.WalkSpells
import Derived.OwnWalk
import Derived.Laws.Pointers
import Derived.BigQuiet
import Derived.Deep.QuietTactic
import Derived.Shelf.Strings.MapGrows
import Derived.Shelf.Small.Utf8
namespace Go.Ftx
open Go.Lib
/-- to what a table maps a character -/
def imgT : List (Int × Int) → Bool → Int → Int → Int
  | [], keep, rest, r => if keep then r else rest
  | x :: T, keep, rest, r => if x.1 = r then x.2 else imgT T keep rest r
def okT (T : List (Int × Int)) : Prop := ∀ x ∈ T, (-2147483648 ≤ x.1 ∧ x.1 ≤ 2147483647) ∧ (-2147483648 ≤ x.2 ∧ x.2 ≤ 2147483647)
theorem img_step (T : List (Int × Int)) (keep : Bool) (rest r : Int) (k : Nat) (hlt : k < T.length) : imgT (T.drop k) keep rest r = if (T.getD k (0, 0)).1 = r then (T.getD k (0, 0)).2 else imgT (T.drop (k + 1)) keep rest r := by
  rw [List.drop_eq_getElem_cons hlt]
  simp [imgT, List.getD, hlt]
theorem imgT_range : ∀ (T : List (Int × Int)) (keep : Bool) (rest r : Int), okT T → -2147483648 ≤ rest → rest ≤ 2147483647 → -2147483648 ≤ r → r ≤ 2147483647 → -2147483648 ≤ imgT T keep rest r ∧ imgT T keep rest r ≤ 2147483647
  | [], keep, rest, r, _, h1, h2, h3, h4 => by unfold imgT; split <;> omega
  | x :: T, keep, rest, r, hT, h1, h2, h3, h4 => by
    have hx := hT x (by simp)
    unfold imgT
    split
    · exact hx.2
    · exact imgT_range T keep rest r (fun y hy => hT y (by simp [hy])) h1 h2 h3 h4
/-- a value that a table may name: a negative number or a character -/
def properV (z : Int) : Bool := decide (z < 0) || Lib.validRune z
def properT (T : List (Int × Int)) (keep : Bool) (rest : Int) : Bool := (T.all fun x => properV x.2) && (keep || properV rest)
theorem validRune_char (z : Int) (h : Lib.validRune z = true) : isChar z := by
  unfold Lib.validRune at h
  simp at h
  exact ⟨by omega, by omega, by omega⟩
theorem proper_img : ∀ (T : List (Int × Int)) (keep : Bool) (rest r : Int), properT T keep rest = true → isChar r → 0 ≤ imgT T keep rest r → isChar (imgT T keep rest r)
  | [], keep, rest, r, h, hr, h0 => by
    unfold imgT at h0 ⊢
    cases keep with
    | true => exact hr
    | false =>
      simp only [properT, List.all_nil, Bool.true_and, Bool.false_or, properV] at h
      simp only [Bool.false_eq_true, if_false] at h0 ⊢
      rw [decide_eq_false (by omega), Bool.false_or] at h
      exact validRune_char _ h
  | x :: T, keep, rest, r, h, hr, h0 => by
    have hT : properT T keep rest = true := by
      unfold properT at h ⊢
      rw [List.all_cons] at h
      simp only [Bool.and_eq_true] at h ⊢
      exact ⟨h.1.2, h.2⟩
    unfold imgT at h0 ⊢
    by_cases hx : x.1 = r
    · rw [if_pos hx] at h0 ⊢
      unfold properT at h
      rw [List.all_cons] at h
      simp only [Bool.and_eq_true] at h
      have hv := h.1.1
      unfold properV at hv
      rw [decide_eq_false (by omega), Bool.false_or] at hv
      exact validRune_char _ hv
    · rw [if_neg hx] at h0 ⊢
      exact proper_img T keep rest r hT hr h0
end Go.Ftx
namespace Go.Proofs.YtjcbhnnlakfmaaaDoor
open Go.Shelf Go.RowKit Go.Lib Go.Ftx

/-- a slice of rules that holds the table T -/
def RulesL (w : World) (v : Value) (T : List (Int × Int)) : Prop :=
  (∃ a cap, v = .slice a 0 cap ∧ T = []) ∨ ∃ b off cap, v = .slice (some ⟨b, off, none⟩) T.length cap ∧ T.length ≤ cap ∧ cap ≤ 9223372036854775807 ∧
    ∀ i, i < T.length → w.cell? ⟨b, off + i * 2, none⟩ = some (.int .i32 (T.getD i (0, 0)).1) ∧ w.cell? ⟨b, off + i * 2 + 1, none⟩ = some (.int .i32 (T.getD i (0, 0)).2)
theorem RulesL.kept {w w' : World} {v : Value} {T : List (Int × Int)} (h : RulesL w v T) (hg : w.grownBy w' none) : RulesL w' v T := by
  rcases h with ⟨a, cap, rfl, e⟩ | ⟨b, off, cap, rfl, hl, hl2, hc⟩
  · exact .inl ⟨a, cap, rfl, e⟩
  · exact .inr ⟨b, off, cap, rfl, hl, hl2, fun i hi => ⟨hg.cell (hc i hi).1 (by simp), hg.cell (hc i hi).2 (by simp)⟩⟩
theorem RulesL.nil (w : World) : RulesL w (.slice none 0 0) [] := .inl ⟨_, _, rfl, rfl⟩
/-- the cells at a place of a table, whatever the table's slice is -/
theorem RulesL.form {w : World} {v : Value} {T : List (Int × Int)} (h : RulesL w v T) : ∃ a cap, v = .slice a T.length cap ∧ T.length ≤ 9223372036854775807 ∧
    ∀ i, i < T.length → ∃ b off, a = some ⟨b, off, none⟩ ∧ w.cell? ⟨b, off + i * 2, none⟩ = some (.int .i32 (T.getD i (0, 0)).1) ∧ w.cell? ⟨b, off + i * 2 + 1, none⟩ = some (.int .i32 (T.getD i (0, 0)).2) := by
  rcases h with ⟨a, cap, rfl, rfl⟩ | ⟨b, off, cap, rfl, hl, hl2, hc⟩
  · exact ⟨a, cap, rfl, by simp, fun i hi => absurd hi (by simp)⟩
  · exact ⟨_, cap, rfl, by omega, fun i hi => ⟨b, off, rfl, hc i hi⟩⟩
def ruleCells (T : List (Int × Int)) : List Value := T.flatMap fun x => [.int .i32 x.1, .int .i32 x.2]
theorem ruleCells_length (T : List (Int × Int)) : (ruleCells T).length = T.length * 2 := by
  induction T with
  | nil => rfl
  | cons x T ih =>
    show (([Value.int .i32 x.1, .int .i32 x.2] : List Value) ++ ruleCells T).length = _
    rw [List.length_append, ih, List.length_cons]
    simp
    omega
theorem ruleCells_append (T U : List (Int × Int)) : ruleCells (T ++ U) = ruleCells T ++ ruleCells U := by unfold ruleCells; rw [List.flatMap_append]
theorem ruleCells_get : ∀ (T : List (Int × Int)) (i : Nat), i < T.length → (ruleCells T)[i * 2]? = some (.int .i32 (T.getD i (0, 0)).1) ∧ (ruleCells T)[i * 2 + 1]? = some (.int .i32 (T.getD i (0, 0)).2)
  | [], i, h => absurd h (by simp)
  | x :: T, 0, _ => ⟨rfl, rfl⟩
  | x :: T, i + 1, h => by
    have ih := ruleCells_get T i (by simpa using h)
    have e : ruleCells (x :: T) = .int .i32 x.1 :: .int .i32 x.2 :: ruleCells T := rfl
    rw [e, show (i + 1) * 2 = i * 2 + 1 + 1 by omega]
    exact ih
theorem rules_of_own {w : World} {base : Nat} {e : TypeId} {v : Value} {T : List (Int × Int)} (h : w.ownsRow base e 2 v T.length (ruleCells T)) : RulesL w v T := by
  rcases h.2 with ⟨rfl, h0⟩ | ⟨g, cap, cur, rfl, hb, hg, hn, hm, _⟩
  · exact .inl ⟨_, _, rfl, List.length_eq_zero_iff.1 h0⟩
  · refine .inr ⟨g, 0, cap, rfl, hn, hm, fun i hi => ?_⟩
    rw [Nat.zero_add, h.cellAt (i * 2) (by omega), h.cellAt (i * 2 + 1) (by omega)]
    exact ruleCells_get T i hi
theorem own_formN {w : World} {base k : Nat} {e : TypeId} {v : Value} {n : Nat} {xs : List Value} (h : w.ownsRow base e k v n xs) (hv : v ≠ .slice none 0 0) : ∃ g cap, v = .slice (some ⟨g, 0, none⟩) n cap ∧ base ≤ g ∧ n ≤ cap := by
  rcases h.2 with ⟨h0, _⟩ | ⟨g, cap, cur, rfl, hb, _, hn, _⟩
  · exact absurd h0 hv
  · exact ⟨g, cap, rfl, hb, hn⟩
theorem take_snocT (l : List (Int × Int)) (k : Nat) (h : k < l.length) : l.take (k + 1) = l.take k ++ [l.getD k (0, 0)] := by
  rw [List.take_add_one, List.getElem?_eq_getElem h]
  simp [List.getD, h]
theorem cell_pair (w : World) (x y : Value) (t : TypeId) : ∀ (j : Nat) (u : Value), ([x, y] : List Value)[j]? = some u → (w.alloc (.cells #[x, y] t)).cell? ((⟨w.heap.size, 0, none⟩ : Addr).add j) = some u := by
  intro j u hj
  rw [Addr.add_lit, cell_of_heap (heap_alloc_new w _) (0 + j), Nat.zero_add]
  match j, hj with
  | 0, hj => simpa using hj
  | 1, hj => simpa using hj
  | j + 2, hj => simp at hj

theorem info_rules : (Tryd.prog.info? 62).map (fun i => (i.zero, i.size, i.bytes)) = some (some (.agg #[.int .i32 0, .int .i32 0]), 2, 8) := by kernel_rfl
set_option maxHeartbeats 2000000 in
theorem rules_any (v : Value) (T : List (Int × Int)) (w : World) (hT : RulesL w v T) (hn : T.length ≤ 8000000) :
    Calls Tryd.prog 36 #[v] w fun e w' => ∃ v', e = .returned v' ∧ w'.ownsRow w.heap.size 62 2 v' T.length (ruleCells T) ∧ v' ≠ .slice none 0 0 ∧ w.grownBy w' none := by
  obtain ⟨a, cap, rfl, hl63, hcells⟩ := hT.form
  have HC := Lib.hid hcells
  clear hT hcells
  obtain ⟨i0, hi, hz0, hz1, hz2⟩ := info_parts info_rules
  go_enter Tryd.func36, Tryd.ntmps36
  go_wp2
  go_loopg [3, 4] T.length (fun g s3 s4 wx => ∃ k : Nat, k + g = T.length ∧ s4 = .int .i64 k ∧ s3 ≠ .slice none 0 0 ∧
    Hid (wx.ownsRow w.heap.size 62 2 s3 k (ruleCells (T.take k))) ∧ Hid (w.grownBy wx none))
  case atStart => exact ⟨0, by omega, rfl, by simp, World.ownsRow_lit w #[] 0 (Nat.le_refl _) (by unfold maxLen; omega) rfl, World.grownBy_alloc w _ none⟩
  case round =>
    obtain ⟨k, hk, rfl, hnn, HO, HG⟩ := hrel
    obtain ⟨gb, cp, rfl, hgb, hcp⟩ := own_formN HO.out hnn
    by_cases hlt : k < T.length
    · obtain ⟨g', rfl⟩ : ∃ g', gk = g' + 1 := ⟨gk - 1, by omega⟩
      have hzz : (k : Int) < (T.length : Int) := by omega
      obtain ⟨b, off, rfl, hc1, hc2⟩ := HC.out k hlt
      have hd1 := HG.out.cell hc1 (by simp)
      have hd2 := HG.out.cell hc2 (by simp)
      have HTK := Lib.hid (show ruleCells (T.take (k + 1)) = ruleCells (T.take k) ++ [.int .i32 (T.getD k (0, 0)).1, .int .i32 (T.getD k (0, 0)).2] by rw [take_snocT T k hlt, ruleCells_append]; rfl)
      generalize (T.getD k (0, 0)).1 = za at *
      generalize (T.getD k (0, 0)).2 = zb at *
      generalize ruleCells (T.take k) = CS at *
      have hlb := World.block_lt_of_cell? w _ (hc1)
      have hsz := HG.out.size
      have ag : (Value.slice (some ⟨gb, 0, none⟩) k cp).ownBlock ≠ some b := by simp at hlb; simp [Value.ownBlock]; omega
      have hk0 : (0 : Int) ≤ (k : Int) := by omega
      have hlb' : b < wr.heap.size := by simp at hlb; omega
      have HOWN := HO.out
      clear hc1 hc2 hlb HC
      go_wp2_with fail
      go_region_held3 (fun w' => w'.cell? ⟨b, off + k * 2, none⟩ = some (.int .i32 za) ∧ w'.cell? ⟨b, off + k * 2 + 1, none⟩ = some (.int .i32 zb))
        (first
          | go_keep
          | (go_split_ands
             refine ⟨?_, ?_⟩
             · (rw [hgrow.cell_far _ (by simp; omega) (Ne.symm ag)]; assumption)
             · (rw [hgrow.cell_far _ (by simp; omega) (Ne.symm ag)]; assumption)))
        ((refine step_append_lies _ (by rfl) _ _ _ (by rfl) w.heap.size 62 i0 _ 2 8 Tryd.underlying44 hi hz0 hz1 hz2 rfl (by omega) (.slice (some ⟨gb, 0, none⟩) k cp) k CS (by rfl) ((HOWN.alloc _).drew)
            ⟨wr.heap.size, 0, none⟩ 1 1 [.int .i32 za, .int .i32 zb] (by rfl) (by rfl) (World.news_of_block (cs := #[.int .i32 za, .int .i32 zb]) (t := 62) (fr := (0, 0)) (heap_alloc_new wr _)) (by simp [Value.oneCell'])
            (by omega) (by unfold maxLen; omega) (by omega) (by simp; omega) (wr.heap.size + 1) (by simp) ?_; intro g2 cap2 w1 hown' hgrow hat hlt2))
      have hnv : Value.slice (some ⟨g2, 0, none⟩) (k + 1) cap2 ≠ .slice none 0 0 := by simp
      rw [← HTK.out] at hown'
      have HO2 := Lib.hid hown'
      have HG2 := Lib.hid (gjoin (gdrew (galloc HG.out _)) hgrow hgb)
      clear hown' hgrow HOWN HO HG HTK hat hlt2
      go_wp2_with fail
      go_roundg g'
      case measure => omega
      case rel => exact ⟨k + 1, by omega, by first | rfl | simp, hnv, HO2.out, HG2.out⟩
    · have hzz : ¬ (k : Int) < (T.length : Int) := by omega
      obtain rfl : k = T.length := by omega
      have HO' := HO
      rw [List.take_length] at HO'
      clear HO
      go_wp2
      go_ret
      exact ⟨_, rfl, HO'.out, by simp, HG.out⟩


set_option maxHeartbeats 2000000 in
theorem image_any (v : Value) (T : List (Int × Int)) (keep : Bool) (rest r : Int) (w : World) (hT : RulesL w v T) :
    Calls Tryd.prog 16 #[v, .bool keep, .int .i32 rest, .int .i32 r] w fun e w' => e = .returned (.int .i32 (imgT T keep rest r)) ∧ w = w' := by
  obtain ⟨a, cap, rfl, hl63, hcells⟩ := hT.form
  have HC := Lib.hid hcells
  clear hT hcells
  generalize hANS : imgT T keep rest r = ANS
  have HA := Lib.hid hANS
  clear hANS
  go_enter Tryd.func16, Tryd.ntmps16
  go_wp2
  go_loopg [9] T.length (fun g s9 wx => w = wx ∧ ∃ k : Nat, k + g = T.length ∧ s9 = .int .i64 k ∧ Hid (imgT (T.drop k) keep rest r = ANS))
  case atStart => exact ⟨rfl, 0, by omega, rfl, HA.out⟩
  case round =>
    obtain ⟨rfl, k, hk, rfl, HI⟩ := hrel
    clear HA
    by_cases hlt : k < T.length
    · obtain ⟨g', rfl⟩ : ∃ g', gk = g' + 1 := ⟨gk - 1, by omega⟩
      have hzz : (k : Int) < (T.length : Int) := by omega
      obtain ⟨b, off, rfl, hc1, hc2⟩ := HC.out k hlt
      have HD := Lib.hid (show imgT (T.drop k) keep rest r = if (T.getD k (0, 0)).1 = r then (T.getD k (0, 0)).2 else imgT (T.drop (k + 1)) keep rest r by
        rw [List.drop_eq_getElem_cons hlt]
        simp [imgT, List.getD, hlt])
      rw [HI.out] at HD
      generalize (T.getD k (0, 0)).1 = za at *
      generalize (T.getD k (0, 0)).2 = zb at *
      by_cases he : za = r
      · have hb : (za == r) = true := by simpa using he
        have HE := Lib.hid (HD.out.trans (if_pos he))
        clear HD he
        go_wp2
        go_ret
        exact ⟨congrArg (fun z => Ending.returned (.int .i32 z)) HE.out.symm, rfl⟩
      · have hb : (za == r) = false := by simpa using he
        have HE := Lib.hid (HD.out.trans (if_neg he)).symm
        clear HD he
        go_wp2
        go_roundg g'
        case measure => omega
        case rel => exact ⟨rfl, k + 1, by omega, by first | rfl | simp, HE.out⟩
    · have hzz : ¬ (k : Int) < (T.length : Int) := by omega
      have HE := Lib.hid (show (if keep then r else rest) = ANS by rw [← HI.out, List.drop_eq_nil_of_le (by omega)]; rfl)
      cases keep with
      | true =>
        go_wp2
        go_ret
        exact ⟨congrArg (fun z => Ending.returned (.int .i32 z)) HE.out, rfl⟩
      | false =>
        go_wp2
        go_ret
        exact ⟨congrArg (fun z => Ending.returned (.int .i32 z)) HE.out, rfl⟩

set_option maxHeartbeats 2000000 in
theorem clo_any (v : Value) (T : List (Int × Int)) (keep : Bool) (rest r : Int) (p1 p2 p3 : Nat) (w : World) (hT : RulesL w v T)
    (h1 : w.cell? ⟨p1, 0, none⟩ = some v) (h2 : w.cell? ⟨p2, 0, none⟩ = some (.bool keep)) (h3 : w.cell? ⟨p3, 0, none⟩ = some (.int .i32 rest)) :
    Calls Tryd.prog 79 #[.int .i32 r, .pointer (some ⟨p1, 0, none⟩), .pointer (some ⟨p2, 0, none⟩), .pointer (some ⟨p3, 0, none⟩)] w fun e w' => e = .returned (.int .i32 (imgT T keep rest r)) ∧ w.grownBy w' none := by
  obtain ⟨a, cap, rfl, hl63, hcells⟩ := hT.form
  have HC := Lib.hid hcells
  clear hT hcells
  have H2 := Lib.hid h2
  have H3 := Lib.hid h3
  clear h2 h3
  generalize hANS : imgT T keep rest r = ANS
  have HA := Lib.hid hANS
  clear hANS
  go_enter Tryd.func79, Tryd.ntmps79
  go_wp2
  go_loopg [10] T.length (fun g s10 wx => ∃ k : Nat, k + g = T.length ∧ s10 = .int .i64 k ∧ Hid (imgT (T.drop k) keep rest r = ANS) ∧ Hid (w.grownBy wx none))
  case atStart => exact ⟨0, by omega, rfl, HA.out, grefl w none⟩
  case round =>
    obtain ⟨k, hk, rfl, HI, HG⟩ := hrel
    clear HA
    by_cases hlt : k < T.length
    · obtain ⟨g', rfl⟩ : ∃ g', gk = g' + 1 := ⟨gk - 1, by omega⟩
      have hzz : (k : Int) < (T.length : Int) := by omega
      obtain ⟨b, off, rfl, hc1, hc2⟩ := HC.out k hlt
      have hd1 := HG.out.cell hc1 (by simp)
      have hd2 := HG.out.cell hc2 (by simp)
      clear hc1 hc2 H2 H3
      have HD := Lib.hid (img_step T keep rest r k hlt)
      rw [HI.out] at HD
      generalize (T.getD k (0, 0)).1 = za at *
      generalize (T.getD k (0, 0)).2 = zb at *
      by_cases he : za = r
      · have hb : (za == r) = true := by simpa using he
        have HE := Lib.hid (HD.out.trans (if_pos he))
        clear HD he
        go_wp2
        go_ret
        exact ⟨congrArg (fun z => Ending.returned (.int .i32 z)) HE.out.symm, galloc HG.out _⟩
      · have hb : (za == r) = false := by simpa using he
        have HE := Lib.hid (HD.out.trans (if_neg he)).symm
        clear HD he
        go_wp2
        go_roundg g'
        case measure => omega
        case rel => exact ⟨k + 1, by omega, by first | rfl | simp, HE.out, galloc HG.out _⟩
    · have hzz : ¬ (k : Int) < (T.length : Int) := by omega
      have HE := Lib.hid (show (if keep then r else rest) = ANS by rw [← HI.out, List.drop_eq_nil_of_le (by omega)]; rfl)
      have hd2 := HG.out.cell H2.out (by simp)
      have hd3 := HG.out.cell H3.out (by simp)
      clear H2 H3
      cases keep with
      | true =>
        go_wp2
        go_ret
        exact ⟨congrArg (fun z => Ending.returned (.int .i32 z)) HE.out, HG.out⟩
      | false =>
        go_wp2
        go_ret
        exact ⟨congrArg (fun z => Ending.returned (.int .i32 z)) HE.out, HG.out⟩

/-- the world behind impl.mapping: a block for each variable that the function value takes with it -/
def mapWorld (w : World) (v : Value) (keep : Bool) (rest : Int) : World := ((w.alloc (.cells #[v] 44)).alloc (.cells #[.bool keep] 4)).alloc (.cells #[.int .i32 rest] 21)
def mapBound (w : World) : Array Value := #[.pointer (some ⟨w.heap.size, 0, none⟩), .pointer (some ⟨w.heap.size + 1, 0, none⟩), .pointer (some ⟨w.heap.size + 1 + 1, 0, none⟩)]
set_option maxHeartbeats 2000000 in
theorem mapping_any (a : Option Addr) (n c : Nat) (keep : Bool) (rest : Int) (w : World) :
    Calls Tryd.prog 65 #[.slice a n c, .bool keep, .int .i32 rest] w fun e w' => e = .returned (.func (.func 79) #[] (mapBound w)) ∧ mapWorld w (.slice a n c) keep rest = w' := by
  go_enter Tryd.func65, Tryd.ntmps65
  go_wp2
  go_ret
  exact ⟨rfl, rfl⟩
theorem mapWorld_grown (w : World) (v : Value) (keep : Bool) (rest : Int) : w.grownBy (mapWorld w v keep rest) none := galloc (galloc (World.grownBy_alloc w _ none) _) _
theorem mapWorld_cells (w : World) (v : Value) (keep : Bool) (rest : Int) : (mapWorld w v keep rest).cell? ⟨w.heap.size, 0, none⟩ = some v ∧ (mapWorld w v keep rest).cell? ⟨w.heap.size + 1, 0, none⟩ = some (.bool keep) ∧
    (mapWorld w v keep rest).cell? ⟨w.heap.size + 1 + 1, 0, none⟩ = some (.int .i32 rest) := by
  have e1 := asize w (.cells #[v] 44)
  have e2 := asize (w.alloc (.cells #[v] 44)) (.cells #[.bool keep] 4)
  unfold mapWorld
  refine ⟨?_, ?_, ?_⟩
  · exact (World.grownBy_alloc _ _ none).cell ((World.grownBy_alloc _ _ none).cell (by rw [cell_of_heap (heap_alloc_new w _) 0]; rfl) (by simp)) (by simp)
  · refine (World.grownBy_alloc _ _ none).cell ?_ (by simp)
    have h := heap_alloc_new (w.alloc (.cells #[v] 44)) (.cells #[.bool keep] 4)
    rw [e1] at h
    rw [cell_of_heap h 0]
    rfl
  · have h := heap_alloc_new ((w.alloc (.cells #[v] 44)).alloc (.cells #[.bool keep] 4)) (.cells #[.int .i32 rest] 21)
    rw [e2, e1] at h
    rw [cell_of_heap h 0]
    rfl
/-- the function value that impl.mapping hands out pays what Map asks -/
theorem clo_pays (w : World) (v : Value) (T : List (Int × Int)) (keep : Bool) (rest : Int) (hT : RulesL w v T) : MapGrows Tryd.prog 79 (mapBound w) (imgT T keep rest) (mapWorld w v keep rest) := by
  intro W x hx hb
  obtain ⟨h1, h2, h3⟩ := mapWorld_cells w v keep rest
  have hg := belowg hb
  refine (clo_any v T keep rest (x : Int) w.heap.size (w.heap.size + 1) (w.heap.size + 1 + 1) W ((hT.kept (mapWorld_grown w v keep rest)).kept hg) (hg.cell h1 (by simp)) (hg.cell h2 (by simp)) (hg.cell h3 (by simp))).mono ?_
  rintro e w' ⟨rfl, hg'⟩
  exact ⟨rfl, gbelow hg'⟩

end Go.Proofs.YtjcbhnnlakfmaaaDoor
