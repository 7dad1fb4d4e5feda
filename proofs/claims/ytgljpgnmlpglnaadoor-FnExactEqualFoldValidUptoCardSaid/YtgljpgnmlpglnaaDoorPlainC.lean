/- The cases of a code point, and letters: plain facts over the library's tables. A case of a character is a character; a case taken once more changes nothing; what is no code point has itself; letters are characters. -/
import Derived.Test.YtgljpgnmlpglnaaDoorPlain
import Derived.Test.YtgljpgnmlpglnaaDoorChars
import Derived.Lib.IsU
namespace Go.Ftx
open Go.Lib
set_option maxRecDepth 100000

def toF (c r : Nat) : Int :=
  match lookF r 337 0 336 with
  | some i => convertR c (r : Int) (caseAt i)
  | none => (r : Int)
theorem toF_eq (c r : Nat) : toR caseA c (r : Int) = toF c r := by
  unfold toR toF lookupGo
  rw [caseA_size0, lookF_eq r _ _ _ (Nat.le_refl _)]
  cases h : lookF r 337 0 336 with
  | none => rfl
  | some i =>
    have hi := (lookF_lt r _ _ _ _ h).2.1
    simp only [Option.map_some]
    rw [caseAt_eq i hi]
def ascF (c r : Nat) : Int :=
  cond (Nat.beq c 1) (cond (Nat.ble 65 r && Nat.ble r 90) ((r + 32 : Nat) : Int) (r : Int)) (cond (Nat.ble 97 r && Nat.ble r 122) ((r - 32 : Nat) : Int) (r : Int))
def cF (c r : Nat) : Int := cond (Nat.ble r 127) (ascF c r) (toF c r)
def chkC (c r : Nat) : Bool := okV (cF c r) && decide (cF c (cF c r).toNat = cF c r)
def chkCRow (c : Nat) (x : CaseRow) : Bool := (List.range (x.2.1 + 1 - x.1)).all fun k => chkC c (x.1 + k)
theorem chkC0 : caseT.all (chkCRow 0) = true := by decide +kernel
theorem chkC1 : caseT.all (chkCRow 1) = true := by decide +kernel
theorem chkC2 : caseT.all (chkCRow 2) = true := by decide +kernel
theorem chkCA : ((List.range 3).all fun c => (List.range 127).all fun k => chkC c (k + 1)) = true := by decide +kernel
theorem cF_zero : ((List.range 3).all fun c => decide (cF c 0 = 0)) = true := by decide +kernel
theorem caseT_hi : caseT.all (fun x => decide (x.2.1 ≤ 1114111)) = true := by decide +kernel

theorem cF_row (c i : Nat) (hc : c < 3) (r : Nat) (hi : i < 336) (ha : (caseAt i).1 ≤ r) (hz : r ≤ (caseAt i).2.1) : chkC c r = true := by
  have h : caseT.all (chkCRow c) = true := by
    match c, hc with
    | 0, _ => exact chkC0
    | 1, _ => exact chkC1
    | 2, _ => exact chkC2
  have := List.all_eq_true.1 h _ (caseAt_mem i hi)
  have := List.all_eq_true.1 this (r - (caseAt i).1) (by simp; omega)
  rwa [show (caseAt i).1 + (r - (caseAt i).1) = r by omega] at this
theorem cF_good (c r : Nat) (hc : c < 3) (h : isChar (r : Int)) : isChar (cF c r) ∧ cF c (cF c r).toNat = cF c r := by
  have fin : chkC c r = true → isChar (cF c r) ∧ cF c (cF c r).toNat = cF c r := fun h => by
    unfold chkC at h
    rw [Bool.and_eq_true, decide_eq_true_eq, okV_iff] at h
    refine ⟨⟨by omega, by omega, by omega⟩, h.2⟩
  by_cases h0 : r = 0
  · subst h0
    have := of_decide_eq_true (List.all_eq_true.1 cF_zero c (by simp; omega))
    rw [this]
    exact ⟨⟨by omega, by omega, by omega⟩, this⟩
  · by_cases h1 : r ≤ 127
    · have := List.all_eq_true.1 (List.all_eq_true.1 chkCA c (by simp; omega)) (r - 1) (by simp; omega)
      rw [show r - 1 + 1 = r by omega] at this
      exact fin this
    · have hb : Nat.ble r 127 = false := by rw [← Bool.not_eq_true, Nat.ble_eq]; omega
      cases hl : lookF r 337 0 336 with
      | none =>
        have e : cF c r = (r : Int) := by unfold cF toF; rw [hb, cond_false, hl]
        rw [e]
        exact ⟨h, by rw [Int.toNat_natCast]; exact e⟩
      | some i =>
        obtain ⟨_, hi, ha, hz⟩ := lookF_lt r _ _ _ _ hl
        exact fin (cF_row c i hc r hi ha hz)

theorem upper_F (r : Nat) : toUpperU (r : Int) = cF 0 r := by
  unfold toUpperU cF
  by_cases h : r ≤ 127
  · rw [if_pos (by omega), Nat.ble_eq_true_of_le h, cond_true]
    unfold ascF
    rw [show Nat.beq 0 1 = false from rfl, cond_false]
    by_cases h1 : 97 ≤ r ∧ r ≤ 122
    · rw [if_pos (by omega), Nat.ble_eq_true_of_le h1.1, Nat.ble_eq_true_of_le h1.2]
      show (r : Int) - 32 = ((r - 32 : Nat) : Int)
      omega
    · rw [if_neg (by omega)]
      have : (Nat.ble 97 r && Nat.ble r 122) = false := by
        rw [← Bool.not_eq_true, Bool.and_eq_true, Nat.ble_eq, Nat.ble_eq]; exact h1
      rw [this]; rfl
  · have hb : Nat.ble r 127 = false := by rw [← Bool.not_eq_true, Nat.ble_eq]; omega
    rw [if_neg (by omega), hb, cond_false, toF_eq]
theorem title_F (r : Nat) : toTitleU (r : Int) = cF 2 r := by
  unfold toTitleU cF
  by_cases h : r ≤ 127
  · rw [if_pos (by omega), Nat.ble_eq_true_of_le h, cond_true]
    unfold ascF
    rw [show Nat.beq 2 1 = false from rfl, cond_false]
    by_cases h1 : 97 ≤ r ∧ r ≤ 122
    · rw [if_pos (by omega), Nat.ble_eq_true_of_le h1.1, Nat.ble_eq_true_of_le h1.2]
      show (r : Int) - 32 = ((r - 32 : Nat) : Int)
      omega
    · rw [if_neg (by omega)]
      have : (Nat.ble 97 r && Nat.ble r 122) = false := by
        rw [← Bool.not_eq_true, Bool.and_eq_true, Nat.ble_eq, Nat.ble_eq]; exact h1
      rw [this]; rfl
  · have hb : Nat.ble r 127 = false := by rw [← Bool.not_eq_true, Nat.ble_eq]; omega
    rw [if_neg (by omega), hb, cond_false, toF_eq]
theorem lower_F (r : Nat) : toLowerU (r : Int) = cF 1 r := by
  unfold toLowerU cF
  by_cases h : r ≤ 127
  · rw [if_pos (by omega), Nat.ble_eq_true_of_le h, cond_true]
    unfold ascF
    rw [show Nat.beq 1 1 = true from rfl, cond_true]
    by_cases h1 : 65 ≤ r ∧ r ≤ 90
    · rw [if_pos (by omega), Nat.ble_eq_true_of_le h1.1, Nat.ble_eq_true_of_le h1.2]
      show (r : Int) + 32 = ((r + 32 : Nat) : Int)
      omega
    · rw [if_neg (by omega)]
      have : (Nat.ble 65 r && Nat.ble r 90) = false := by
        rw [← Bool.not_eq_true, Bool.and_eq_true, Nat.ble_eq, Nat.ble_eq]; exact h1
      rw [this]; rfl
  · have hb : Nat.ble r 127 = false := by rw [← Bool.not_eq_true, Nat.ble_eq]; omega
    rw [if_neg (by omega), hb, cond_false, toF_eq]

/-- a function that turns characters to characters, and what it made to itself -/
def Turns (f : Int → Int) : Prop := ∀ r : Int, isChar r → isChar (f r) ∧ f (f r) = f r
theorem turns_of {f : Int → Int} {c : Nat} (hc : c < 3) (h : ∀ r : Nat, f (r : Int) = cF c r) : Turns f := by
  intro r hr
  obtain ⟨n, rfl⟩ : ∃ n : Nat, r = n := ⟨r.toNat, by have := hr.1; omega⟩
  have hg := cF_good c n hc hr
  rw [h]
  refine ⟨hg.1, ?_⟩
  have h1 := h (cF c n).toNat
  rw [Int.toNat_of_nonneg hg.1.1] at h1
  rw [h1, hg.2]
theorem upper_turns : Turns toUpperU := turns_of (by omega) upper_F
theorem lower_turns : Turns toLowerU := turns_of (by omega) lower_F
theorem title_turns : Turns toTitleU := turns_of (by omega) title_F

theorem toR_outside (c : Nat) (r : Int) (h : 1114111 < r) : toR caseA c r = r := by
  obtain ⟨n, rfl⟩ : ∃ n : Nat, r = n := ⟨r.toNat, by omega⟩
  rw [toF_eq]
  unfold toF
  cases hl : lookF n 337 0 336 with
  | none => rfl
  | some i =>
    obtain ⟨_, hi, ha, hz⟩ := lookF_lt n _ _ _ _ hl
    have := of_decide_eq_true (List.all_eq_true.1 caseT_hi _ (caseAt_mem i hi))
    omega
theorem upper_outside (r : Int) (h : r < 0 ∨ 1114111 < r) : toUpperU r = r := by
  unfold toUpperU
  rcases h with h | h
  · rw [if_pos (by omega), if_neg (by omega)]
  · rw [if_neg (by omega), toR_outside _ _ h]
theorem lower_outside (r : Int) (h : r < 0 ∨ 1114111 < r) : toLowerU r = r := by
  unfold toLowerU
  rcases h with h | h
  · rw [if_pos (by omega), if_neg (by omega)]
  · rw [if_neg (by omega), toR_outside _ _ h]
theorem title_outside (r : Int) (h : r < 0 ∨ 1114111 < r) : toTitleU r = r := by
  unfold toTitleU
  rcases h with h | h
  · rw [if_pos (by omega), if_neg (by omega)]
  · rw [if_neg (by omega), toR_outside _ _ h]

/-! letters are characters -/
theorem linGo_row (T : Array Rg) (r : Nat) : ∀ f i, linGo T r f i = true → ∃ j, j < T.size ∧ (T.getD j (0, 0, 0)).1 ≤ r ∧ r ≤ (T.getD j (0, 0, 0)).2.1
  | 0, _, h => by cases h
  | f + 1, i, h => by
    unfold linGo at h
    by_cases hi : i < T.size
    · rw [if_pos hi] at h
      by_cases h1 : r < (T.getD i (0, 0, 0)).1
      · rw [if_pos h1] at h; cases h
      · rw [if_neg h1] at h
        by_cases h2 : r ≤ (T.getD i (0, 0, 0)).2.1
        · exact ⟨i, hi, by omega, h2⟩
        · rw [if_neg h2] at h
          exact linGo_row T r f (i + 1) h
    · rw [if_neg hi] at h; cases h
theorem binGo_row (T : Array Rg) (r : Nat) : ∀ f lo hi, hi ≤ T.size → binGo T r f lo hi = true → ∃ j, j < T.size ∧ (T.getD j (0, 0, 0)).1 ≤ r ∧ r ≤ (T.getD j (0, 0, 0)).2.1
  | 0, _, _, _, h => by cases h
  | f + 1, lo, hi, hz, h => by
    unfold binGo at h
    split at h
    · rename_i hl
      split at h
      · rename_i hr
        exact ⟨(lo + hi) / 2, by omega, hr.1, hr.2⟩
      · split at h
        · exact binGo_row T r f lo _ (by omega) h
        · exact binGo_row T r f _ hi hz h
    · cases h
theorem is16_row (T : Array Rg) (r : Nat) (h : is16Go T r = true) : ∃ j, j < T.size ∧ (T.getD j (0, 0, 0)).1 ≤ r ∧ r ≤ (T.getD j (0, 0, 0)).2.1 := by
  unfold is16Go at h
  split at h
  · exact linGo_row T r _ _ h
  · exact binGo_row T r _ _ _ (Nat.le_refl _) h
theorem is32_row (T : Array Rg) (r : Nat) (h : is32Go T r = true) : ∃ j, j < T.size ∧ (T.getD j (0, 0, 0)).1 ≤ r ∧ r ≤ (T.getD j (0, 0, 0)).2.1 := by
  unfold is32Go at h
  split at h
  · exact linGo_row T r _ _ h
  · exact binGo_row T r _ _ _ (Nat.le_refl _) h
theorem letter16 : (letterT.r16.extract letterT.off letterT.r16.size).toList.all (fun x => decide (x.2.1 < 55296 ∨ 57344 ≤ x.1)) = true := by decide +kernel
theorem letter32 : letterT.r32.toList.all (fun x => decide (65536 ≤ x.1 ∧ x.2.1 ≤ 1114111)) = true := by decide +kernel
theorem letter16_last : (letterT.r16.getD (letterT.r16.size - 1) (0, 0, 0)).2.1 < 65536 := by decide +kernel
theorem getD_mem (T : Array Rg) (j : Nat) (h : j < T.size) : T.getD j (0, 0, 0) ∈ T.toList := by
  simp [Array.getD, h]
theorem letter_char (r : Int) (h0 : -2147483648 ≤ r) (h1 : r ≤ 2147483647) (h : isLetterU r = true) : isChar r := by
  unfold isLetterU at h
  split at h
  · rename_i hl
    have := of_decide_eq_true hl
    exact ⟨by omega, by omega, by omega⟩
  · unfold exclGo at h
    have hlast := letter16_last
    split at h
    · rename_i hc
      have hu : u32Of r < 65536 := by omega
      have hr : r = (u32Of r : Int) := by unfold u32Of at hu ⊢; omega
      obtain ⟨j, hj, ha, hb⟩ := is16_row _ _ h
      have := of_decide_eq_true (List.all_eq_true.1 letter16 _ (getD_mem _ j hj))
      rw [Nat.mod_eq_of_lt hu] at ha hb
      exact ⟨by omega, by omega, by omega⟩
    · split at h
      · rename_i hc
        have hr : r = (u32Of r : Int) := by
          have := hc.2
          unfold u32Of
          omega
        obtain ⟨j, hj, ha, hb⟩ := is32_row _ _ h
        have := of_decide_eq_true (List.all_eq_true.1 letter32 _ (getD_mem _ j hj))
        exact ⟨by omega, by omega, by omega⟩
      · cases h
theorem letter_outside (r : Int) (h0 : -2147483648 ≤ r) (h1 : r ≤ 2147483647) (h : r < 0 ∨ 1114111 < r) : isLetterU r = false := by
  cases e : isLetterU r with
  | false => rfl
  | true =>
    have := letter_char r h0 h1 e
    obtain ⟨a, b, c⟩ := this
    omega
theorem letter_ascii : ((List.range 128).all fun n => isLetterU (n : Int) == (decide (65 ≤ n ∧ n ≤ 90) || decide (97 ≤ n ∧ n ≤ 122))) = true := by decide +kernel

/-! texts that are mapped, character by character -/
/-- what a mapping makes of characters: a negative number drops one -/
def mapR (f : Int → Int) (rs : List Nat) : List Int := (rs.map fun (r : Nat) => f (r : Int)).filter fun z => decide (0 ≤ z)
theorem mapGoD_chars (f : Int → Int) : ∀ (n : Nat) (l : List UInt8), mapGoD f n l = textOf (mapR f (charsN n l))
  | 0, l => rfl
  | n + 1, l => by
    unfold mapGoD charsN
    by_cases h : l = []
    · rw [if_pos h, if_pos h]; rfl
    · rw [if_neg h, if_neg h, mapGoD_chars f n]
      unfold mapR
      rw [List.map_cons]
      by_cases h0 : 0 ≤ f (decodeL l).1
      · rw [if_pos h0, List.filter_cons_of_pos (by simpa using h0)]; rfl
      · rw [if_neg h0, List.filter_cons_of_neg (by simpa using h0)]; rfl
theorem mapD_chars (f : Int → Int) (l : List UInt8) : mapD f l = textOf (mapR f (chars l)) := mapGoD_chars f l.length l
theorem mapR_all {f : Int → Int} {rs : List Nat} (h : ∀ r ∈ rs, 0 ≤ f (r : Int)) : mapR f rs = rs.map fun (r : Nat) => f (r : Int) := by
  unfold mapR
  rw [List.filter_eq_self]
  intro z hz
  obtain ⟨r, hr, rfl⟩ := List.mem_map.1 hz
  simpa using h r hr
theorem mapR_append (f : Int → Int) (a b : List Nat) : mapR f (a ++ b) = mapR f a ++ mapR f b := by
  unfold mapR
  rw [List.map_append, List.filter_append]
theorem textOf_append (a b : List Int) : textOf (a ++ b) = textOf a ++ textOf b := by
  unfold textOf
  rw [List.flatMap_append]
theorem turns_map {f : Int → Int} (hf : Turns f) (l : List UInt8) : mapD f l = textOf ((chars l).map fun (r : Nat) => f (r : Int)) := by
  rw [mapD_chars, mapR_all fun r hr => (hf _ (chars_char l r hr)).1.1]
theorem turns_chars {f : Int → Int} (hf : Turns f) (l : List UInt8) : ∀ z ∈ (chars l).map (fun (r : Nat) => f (r : Int)), isChar z := by
  intro z hz
  obtain ⟨r, hr, rfl⟩ := List.mem_map.1 hz
  exact (hf _ (chars_char l r hr)).1
theorem chars_turned {f : Int → Int} (hf : Turns f) (l : List UInt8) : chars (mapD f l) = (chars l).map fun (r : Nat) => (f (r : Int)).toNat := by
  rw [turns_map hf, chars_textOf _ (turns_chars hf l), List.map_map]
  rfl
theorem turns_twice {f : Int → Int} (hf : Turns f) (l : List UInt8) : mapD f (mapD f l) = mapD f l := by
  rw [turns_map hf (mapD f l), chars_turned hf, turns_map hf l, List.map_map]
  congr 1
  apply List.map_congr_left
  intro r hr
  have := hf _ (chars_char l r hr)
  show f (((f (r : Int)).toNat : Nat) : Int) = f (r : Int)
  rw [Int.toNat_of_nonneg this.1.1]
  exact this.2
end Go.Ftx
