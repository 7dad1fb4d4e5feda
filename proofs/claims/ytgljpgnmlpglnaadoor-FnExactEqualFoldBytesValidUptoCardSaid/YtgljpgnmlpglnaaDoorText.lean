/- spec.Ascii, spec.LowerText, spec.UpperText: characters of one byte. -/
import Derived.Test.YtgljpgnmlpglnaaDoorLow
import Derived.Test.YtgljpgnmlpglnaaDoorRaw
import Derived.Deep.LoopGhost
import Derived.Laws.AppendOwn
import Derived.Laws.OwnMore
import Derived.OwnWalk
import Derived.Lib.FieldsLaws
namespace Go.Ftx
def asciiB (l : List UInt8) : Bool := l.all fun b => decide (b.toNat < 128)
theorem lowerZ_byte (b : UInt8) : 0 ≤ lowerZ b.toNat ∧ lowerZ b.toNat < 256 := by
  have := UInt8.toNat_lt b
  unfold lowerZ; split <;> omega
theorem upperZ_byte (b : UInt8) : 0 ≤ upperZ b.toNat ∧ upperZ b.toNat < 256 := by
  have := UInt8.toNat_lt b
  unfold upperZ; split <;> omega
def lowB (b : UInt8) : UInt8 := UInt8.ofNat (lowerZ b.toNat).toNat
def uppB (b : UInt8) : UInt8 := UInt8.ofNat (upperZ b.toNat).toNat
theorem lowB_val (b : UInt8) : ((lowB b).toNat : Int) = lowerZ b.toNat := by
  have := lowerZ_byte b
  unfold lowB
  simp
  omega
theorem uppB_val (b : UInt8) : ((uppB b).toNat : Int) = upperZ b.toNat := by
  have := upperZ_byte b
  unfold uppB
  simp
  omega
end Go.Ftx
namespace Go.Proofs.YtgljpgnmlpglnaaDoor
open Go.RowKit Go.Lib Go.Ftx

theorem take_snoc (l : List UInt8) (k : Nat) (x : UInt8) (h : l[k]? = some x) : l.take (k + 1) = l.take k ++ [x] := by
  rw [List.take_add_one, h]
  rfl
def byteVals (l : List UInt8) : List Value := l.map fun b => Value.int .u8 ((b.toNat : Nat) : Int)
theorem byteVals_snoc (l : List UInt8) (x : UInt8) : byteVals (l ++ [x]) = byteVals l ++ [Value.int .u8 ((x.toNat : Nat) : Int)] := by simp [byteVals]

set_option maxHeartbeats 1000000 in
theorem ascii_any (s : ByteArray) (w : World) (hs : s.size ≤ 4611686018427387904) :
    Calls Tryd.prog 16 #[.string s] w fun e w' => e = .returned (.bool (asciiB s.data.toList)) ∧ w = w' := by
  generalize hANS : asciiB s.data.toList = ANS
  have HA := Lib.hid hANS
  clear hANS
  go_enter Tryd.func16, Tryd.ntmps16
  go_wp2
  go_loopg [3] s.size (fun g s3 wx => w = wx ∧ ∃ k : Nat, k + g = s.size ∧ s3 = .int .i64 k ∧ Hid (asciiB (s.data.toList.drop k) = ANS))
  case atStart => exact ⟨rfl, 0, by omega, rfl, HA.out⟩
  case round =>
    obtain ⟨rfl, k, hk, rfl, HI⟩ := hrel
    clear HA
    by_cases hlt : k < s.size
    · obtain ⟨g', rfl⟩ : ∃ g', gk = g' + 1 := ⟨gk - 1, by omega⟩
      have hz : (k : Int) < (s.size : Int) := by omega
      obtain ⟨x, hx⟩ : ∃ x : UInt8, s[k]'(by omega) = x := ⟨_, rfl⟩
      have Hx := Lib.hid (show s.data.toList[k]? = some x by rw [← hx]; exact Lib.data_getElem? s k (by omega))
      have HD := Lib.hid (Lib.drop_at Hx.out)
      by_cases hx8 : 128 ≤ x.toNat
      · have hx8z : (128 : Int) ≤ (x.toNat : Int) := by omega
        have HE := Lib.hid (show ANS = false by rw [← HI.out, HD.out]; simp [asciiB]; omega)
        go_wp2
        go_ret
        exact ⟨congrArg (fun z => Ending.returned (.bool z)) HE.out.symm, rfl⟩
      · have hx8z : ¬ (128 : Int) ≤ (x.toNat : Int) := by omega
        have HI' := Lib.hid (show asciiB (s.data.toList.drop (k + 1)) = ANS by
          rw [← HI.out, HD.out]
          show _ = (decide (x.toNat < 128) && asciiB (s.data.toList.drop (k + 1)))
          rw [decide_eq_true (by omega), Bool.true_and])
        go_wp2
        go_roundg g'
        case measure => omega
        case rel => exact ⟨rfl, k + 1, by omega, by first | rfl | simp, HI'.out⟩
    · have hz : ¬ (k : Int) < (s.size : Int) := by omega
      have HE := Lib.hid (show ANS = true by
        rw [← HI.out, List.drop_eq_nil_of_le (by rw [← Lib.size_eq]; omega)]
        rfl)
      go_wp2
      go_ret
      exact ⟨congrArg (fun z => Ending.returned (.bool z)) HE.out.symm, rfl⟩

theorem infoU8 : (Tryd.prog.info? 5).map (fun i => (i.zero, i.size, i.bytes)) = some (some (.int .u8 0), 1, 1) := by kernel_rfl
/-- a slice that the call owns, of length above 0 or made by a literal, is no nil -/
theorem own_form {w : World} {base : Nat} {e : TypeId} {v : Value} {n : Nat} {xs : List Value} (h : w.ownsRow base e 1 v n xs) (hv : v ≠ .slice none 0 0) : ∃ g cap, v = .slice (some ⟨g, 0, none⟩) n cap ∧ base ≤ g ∧ n ≤ cap := by
  rcases h.2 with ⟨h0, _⟩ | ⟨g, cap, cur, rfl, hb, _, hn, _⟩
  · exact absurd h0 hv
  · exact ⟨g, cap, rfl, hb, hn⟩
theorem own_string {w : World} {base g n cap : Nat} {l : List UInt8} (hn : l.length = n) (h : w.ownsRow base 5 1 (.slice (some ⟨g, 0, none⟩) n cap) n (byteVals l)) :
    (convert 22 9 (.slice (some ⟨g, 0, none⟩) n cap)).run Tryd.prog w = .ok (.string ⟨l.toArray⟩) w := by
  subst hn
  refine run_convert_bytes_back (P := Tryd.prog) w 22 9 5 ⟨g, 0, none⟩ cap l Tryd.underlying22 Tryd.underlying5 Tryd.underlying9 (fun j hj => ?_)
  have := h.cellAt j (by omega)
  rw [Addr.add_lit, Nat.zero_add, this]
  simp [byteVals, hj]

set_option maxHeartbeats 2000000 in
theorem lowerText_any (s : ByteArray) (w : World) (hs : s.size ≤ 140737488351232) :
    Calls Tryd.prog 17 #[.string s] w fun e w' => e = .returned (.string ⟨(s.data.toList.map lowB).toArray⟩) ∧ w.grownBy w' none := by
  obtain ⟨i0, hi, hz0, hz1, hz2⟩ := info_parts infoU8
  go_enter Tryd.func17, Tryd.ntmps17
  go_wp2
  go_loopg [3, 4] s.size (fun g s3 s4 wx => ∃ k gb cap : Nat, k + g = s.size ∧ s3 = .slice (some ⟨gb, 0, none⟩) k cap ∧ s4 = .int .i64 k ∧
    wx.ownsRow w.heap.size 5 1 (.slice (some ⟨gb, 0, none⟩) k cap) k (byteVals ((s.data.toList.take k).map lowB)) ∧ w.grownBy wx none)
  case atStart => exact ⟨0, w.heap.size, 0, by omega, rfl, rfl, World.ownsRow_lit w #[] 0 (Nat.le_refl _) (by unfold maxLen; omega) rfl, World.grownBy_alloc w _ none⟩
  case round =>
    obtain ⟨k, gb, cap, hk, rfl, rfl, hown, hg⟩ := hrel
    have HG := Lib.hid hg
    have HO := Lib.hid hown
    clear hg
    by_cases hlt : k < s.size
    · obtain ⟨g', rfl⟩ : ∃ g', gk = g' + 1 := ⟨gk - 1, by omega⟩
      have hzz : (k : Int) < (s.size : Int) := by omega
      obtain ⟨x, hx⟩ : ∃ x : UInt8, s[k]'(by omega) = x := ⟨_, rfl⟩
      have Hx := Lib.hid (show s.data.toList[k]? = some x by rw [← hx]; exact Lib.data_getElem? s k (by omega))
      have hx256 := UInt8.toNat_lt x
      have hb := lowerZ_byte x
      have hv := lowB_val x
      have cL := Lib.hid fun W => lower_any (x.toNat : Int) W (by omega) (by omega)
      have HT := Lib.hid (show byteVals ((s.data.toList.take (k + 1)).map lowB) = byteVals ((s.data.toList.take k).map lowB) ++ [Value.int .u8 (lowerZ x.toNat)] by
        rw [take_snoc _ _ _ Hx.out, List.map_append, List.map_singleton, byteVals_snoc, hv])
      clear hv hown
      generalize lowerZ (x.toNat : Int) = zv at *
      generalize byteVals ((s.data.toList.take k).map lowB) = CS at *
      go_wp2_with fail
      refine (cL.out _).mono ?_
      rintro e w' ⟨rfl, rfl⟩
      have hown1 := HO.out.alloc (.cells #[.int .u8 zv] 5)
      go_wp2_with (at_builtin; refine wpList_append_own _ rfl _ _ 22 rfl w.heap.size 5 i0 (.int .u8 0) 1 1 Tryd.underlying22 hi hz0 hz1 hz2 rfl (by decide) _ _ _ rfl hown1 ⟨wr.heap.size, 0, none⟩ 1 1 [.int .u8 zv] rfl rfl ?c1 ?c2 ?c3 ?c4 ?c5 ?_)
      case c1 =>
        intro j u hj
        match j, hj with
        | 0, hj =>
          rw [List.getElem?_cons_zero] at hj
          obtain rfl := Option.some.inj hj
          rw [Addr.add_lit]
          rw [cell_of_heap (heap_alloc_new wr _) (0 + 0)]
          rfl
        | j + 1, hj => simp at hj
      case c2 => intro u hu; simp at hu; subst hu; rfl
      case c3 => unfold maxLen; omega
      case c4 => omega
      case c5 => have := HG.out.size; rw [asize]; omega
      intro v' w1 hown' hgrow hiff
      have hnn : v' ≠ .slice none 0 0 := hiff
      obtain ⟨g2, cap2, rfl, hb2, hn2⟩ := own_form hown' hnn
      have hO2 := hown'
      rw [← HT.out] at hO2
      have HO2 := Lib.hid hO2
      have hgb : w.heap.size ≤ gb := (HO.out.lt gb rfl).1
      have HG2 := Lib.hid (gjoin (galloc HG.out _) hgrow hgb)
      clear hown' hgrow hiff hnn hO2 hown1 HO HG HT
      go_wp2_with fail
      go_roundg g'
      case measure => omega
      case rel => exact ⟨k + 1, g2, cap2, by omega, rfl, by first | rfl | simp, HO2.out, HG2.out⟩
    · have hzz : ¬ (k : Int) < (s.size : Int) := by omega
      obtain rfl : k = s.size := by omega
      rw [List.take_of_length_le (by rw [← Lib.size_eq]; omega)] at hown
      have hcv := own_string (by rw [List.length_map, ← Lib.size_eq]) hown
      clear hown HO
      go_wp2
      go_ret
      exact ⟨rfl, HG.out⟩

end Go.Proofs.YtgljpgnmlpglnaaDoor
