/-
  DERIVED: THE SHELF's CONTRACTS AT THIS DUMP, IN PLAIN WORDS (tools/lay-plain.mjs out of 'TrydShelf.lean', which tools/lay-shelf.mjs wrote): THE SAME DECLARATIONS UNDER THE SAME NAMES: 'import', 'namespace', 'open', 'def', 'theorem' AND NOTHING ELSE: no command of the shelf's: FOR A HAND-IN. Each laying: the table of numbers ('.._ren') and one theorem, a field a fact of the dump's own or the kernel's comparison; each contract: ONE APPLICATION.
-/
import Derived.Shelf.Unicode.ValidAny
import Derived.Shelf.Spec.DecodeRune
import Derived.Shelf.Spec.NilArms
import Derived.Shelf.Spec.BytesMap
import Derived.Shelf.Spec.ToTitle
import Derived.Shelf.Strings.Builder1
import Derived.Shelf.Strings.Builder2
import Derived.Shelf.Strings.OnBuilder
import Derived.Shelf.Small.Utf8
import Derived.Shelf.Strings.BuilderF
import Derived.Shelf.Strings.BuilderK
import Derived.Shelf.Strings.BuilderRune
import Derived.Shelf.Utf8.AppendRunePlain
import Derived.Shelf.Strings.Builder2Cap
import Derived.Shelf.Unicode.Latin
import Derived.Shelf.Unicode.Props
import Derived.Shelf.Unicode.DecodeSlow
import Derived.Shelf.Unicode.DecodeAny
import Derived.Shelf.Unicode.Is16White
import Derived.Shelf.Unicode.IsSpaceAny
import Derived.Shelf.Unicode.CaseLookup
import Derived.Shelf.Unicode.CaseConvert
import Derived.Shelf.Unicode.CaseTo
import Derived.Shelf.Unicode.CaseLaid
import Derived.Shelf.Strings.MapAny
import Derived.Shelf.Strings.CaseAny
import Derived.Shelf.Unicode.Is16Any
import Derived.Shelf.Unicode.Is32Any
import Derived.Shelf.Unicode.ExclAny
import Derived.Shelf.Unicode.PredsAny
import Derived.Shelf.Unicode.PredsPay
import Derived.Shelf.Strings.BuilderCap
import Derived.Shelf.Strings.MapGrows
import Derived.Shelf.Bytes.SlCase
import Derived.Test.YtjcbhnnlakfmaaaDoorProg
namespace Go.Proofs
open Go.Shelf
def Tryd.lays169_ren : Go.Shelf.Ren := ⟨fun | 169 => 76 | n => n, fun | 70 => 75 | 9 => 9 | 0 => 0 | 72 => 77 | 37 => 22 | 127 => 102 | 3 => 3 | 5 => 5 | n => n, fun | n => n⟩
theorem Tryd.lays169 : Go.Proofs.Lays.n169 Tryd.prog Tryd.lays169_ren := {
  mixed := by kernel_rfl
  f169 := Tryd.func76.trans (congrArg some (by kernel_rfl))
  t0 := Tryd.underlying0
  a0 := Tryd.isAgg0
  z0 := Tryd.sizeOf0
  v0 := Tryd.zeroValue0
  t3 := Tryd.underlying3
  a3 := Tryd.isAgg3
  z3 := Tryd.sizeOf3
  v3 := Tryd.zeroValue3
  t9 := Tryd.underlying9
  a9 := Tryd.isAgg9
  z9 := Tryd.sizeOf9
  v9 := Tryd.zeroValue9
  t37 := Tryd.underlying22
  a37 := Tryd.isAgg22
  z37 := Tryd.sizeOf22
  v37 := Tryd.zeroValue22
  t70 := Tryd.underlying75
  a70 := Tryd.isAgg75
  z70 := Tryd.sizeOf75
  v70 := Tryd.zeroValue75
  t72 := Tryd.underlying77
  a72 := Tryd.isAgg77
  z72 := Tryd.sizeOf77
  v72 := Tryd.zeroValue77
  t127 := Tryd.underlying102
  a127 := Tryd.isAgg102
  z127 := Tryd.sizeOf102
  v127 := Tryd.zeroValue102 }
theorem Tryd.Builder_Extra_169 : Builder.Extra Tryd.prog Tryd.lays169_ren := {
  sizeBuilder := by kernel_rfl
  liesBuilder := by kernel_rfl
  t5 := Tryd.underlying5
  a5 := Tryd.isAgg5
  z5 := Tryd.sizeOf5
  v5 := Tryd.zeroValue5
  infoByte := by kernel_rfl
  cellsByte := by kernel_rfl
  sizeByte := by kernel_rfl
  neB5 := by decide }
open Go.RowKit in
/-- (*strings.Builder).String: "String returns the accumulated string.": OF A BUILDER THAT HOLDS AT LEAST ONE BYTE. ✋ THE MODEL FREEZES THOSE BYTES IN THE BUFFER (unsafe.String): a later write INTO them ends the model's run without an answer; a later append BEHIND them goes on. The statement's order of evaluation is drawn: one draw. (LAID: no walk: one application.) -/
theorem Tryd.Builder_String (B b : Nat) (l : List UInt8) (w : World) (h : Lib.IsBuilder 77 5 B b (Lib.byteCells l) w) (h0 : l ≠ []) :
    Calls Tryd.prog 76 #[.pointer (some ⟨b, 0, none⟩)] w fun e w' => e = .returned (.string ⟨l.toArray⟩) ∧ Below B w w' := Any.Builder_String Tryd.lays169 Tryd.Builder_Extra_169 B b l w h h0
open Go.RowKit in
/-- (*strings.Builder).String OF A BUILDER THAT HOLDS NO BYTE: the empty string. (Its buffer is nil, or a row of which it has taken nothing yet; where that row has NO capacity the model lays one new block for unsafe.SliceData's 'some address'.) One draw. (LAID: no walk: one application.) -/
theorem Tryd.Builder_String_empty (B b : Nat) (w : World) (h : Lib.IsBuilder 77 5 B b [] w) (hBw : B ≤ w.heap.size) :
    Calls Tryd.prog 76 #[.pointer (some ⟨b, 0, none⟩)] w fun e w' => e = .returned (.string ⟨#[]⟩) ∧ Below B w w' := Any.Builder_String_empty Tryd.lays169 Tryd.Builder_Extra_169 B b w h hBw
open Go.RowKit in
/-- (*strings.Builder).String: "String returns the accumulated string.": WHATEVER THE BUILDER HOLDS. (LAID: no walk: one application.) -/
theorem Tryd.Builder_String_any (B b : Nat) (l : List UInt8) (w : World) (h : Lib.IsBuilder 77 5 B b (Lib.byteCells l) w) (hBw : B ≤ w.heap.size) :
    Calls Tryd.prog 76 #[.pointer (some ⟨b, 0, none⟩)] w fun e w' => e = .returned (.string ⟨l.toArray⟩) ∧ Below B w w' := Any.Builder_String_any Tryd.lays169 Tryd.Builder_Extra_169 B b l w h hBw
def Tryd.lays241_ren : Go.Shelf.Ren := ⟨fun | 241 => 89 | 277 => 72 | n => n, fun | 70 => 75 | 3 => 3 | 0 => 0 | 72 => 77 | 37 => 22 | 5 => 5 | n => n, fun | n => n⟩
theorem Tryd.lays241 : Go.Proofs.Lays.n241 Tryd.prog Tryd.lays241_ren := {
  mixed := by kernel_rfl
  f241 := Tryd.func89.trans (congrArg some (by kernel_rfl))
  f277 := Tryd.func72.trans (congrArg some (by kernel_rfl))
  t0 := Tryd.underlying0
  a0 := Tryd.isAgg0
  z0 := Tryd.sizeOf0
  v0 := Tryd.zeroValue0
  t3 := Tryd.underlying3
  a3 := Tryd.isAgg3
  z3 := Tryd.sizeOf3
  v3 := Tryd.zeroValue3
  t37 := Tryd.underlying22
  a37 := Tryd.isAgg22
  z37 := Tryd.sizeOf22
  v37 := Tryd.zeroValue22
  t70 := Tryd.underlying75
  a70 := Tryd.isAgg75
  z70 := Tryd.sizeOf75
  v70 := Tryd.zeroValue75
  t72 := Tryd.underlying77
  a72 := Tryd.isAgg77
  z72 := Tryd.sizeOf77
  v72 := Tryd.zeroValue77 }
theorem Tryd.Builder_Extra_241 : Builder.Extra Tryd.prog Tryd.lays241_ren := {
  sizeBuilder := by kernel_rfl
  liesBuilder := by kernel_rfl
  t5 := Tryd.underlying5
  a5 := Tryd.isAgg5
  z5 := Tryd.sizeOf5
  v5 := Tryd.zeroValue5
  infoByte := by kernel_rfl
  cellsByte := by kernel_rfl
  sizeByte := by kernel_rfl
  neB5 := by decide }
open Go.RowKit in
/-- (*strings.Builder).grow (no doc but "grow copies the buffer to a new, larger buffer so that there are at least n bytes of capacity beyond len(b.buf)."): AT A BUILDER WITHOUT A BUFFER: a new row of whatever bytes for its buffer, none of them its own yet. Three draws. (LAID: no walk: one application.) -/
theorem Tryd.Builder_grow_fresh (B b n : Nat) (w : World) (hB : B ≤ b) (hbk : w.heap[b]? = some (.cells #[.pointer (some ⟨b, 0, none⟩), .slice none 0 0] 77 (0, 0))) (hBw : B ≤ w.heap.size) (hn : n ≤ 281474976710656) :
    Calls Tryd.prog 89 #[.pointer (some ⟨b, 0, none⟩), .int .i64 n] w fun e w' => e = .returned (.tuple #[]) ∧ (Lib.BuilderAt 77 5 B b (.pointer (some ⟨b, 0, none⟩)) [] w' ∧ Below B w w') := Any.Builder_grow_fresh Tryd.lays241 Tryd.Builder_Extra_241 B b n w hB hbk hBw hn
def Tryd.lays165_ren : Go.Shelf.Ren := ⟨fun | 165 => 73 | 240 => 88 | 241 => 89 | 276 => 93 | 277 => 72 | n => n, fun | 70 => 75 | 3 => 3 | 0 => 0 | 4 => 4 | 9 => 9 | 20 => 20 | 72 => 77 | 37 => 22 | 164 => 119 | 5 => 5 | n => n, fun | n => n⟩
theorem Tryd.lays165 : Go.Proofs.Lays.n165 Tryd.prog Tryd.lays165_ren := {
  mixed := by kernel_rfl
  f165 := Tryd.func73.trans (congrArg some (by kernel_rfl))
  f240 := Tryd.func88.trans (congrArg some (by kernel_rfl))
  f241 := Tryd.func89.trans (congrArg some (by kernel_rfl))
  f276 := Tryd.func93.trans (congrArg some (by kernel_rfl))
  f277 := Tryd.func72.trans (congrArg some (by kernel_rfl))
  t0 := Tryd.underlying0
  a0 := Tryd.isAgg0
  z0 := Tryd.sizeOf0
  v0 := Tryd.zeroValue0
  t3 := Tryd.underlying3
  a3 := Tryd.isAgg3
  z3 := Tryd.sizeOf3
  v3 := Tryd.zeroValue3
  t4 := Tryd.underlying4
  a4 := Tryd.isAgg4
  z4 := Tryd.sizeOf4
  v4 := Tryd.zeroValue4
  t9 := Tryd.underlying9
  a9 := Tryd.isAgg9
  z9 := Tryd.sizeOf9
  v9 := Tryd.zeroValue9
  t20 := Tryd.underlying20
  a20 := Tryd.isAgg20
  z20 := Tryd.sizeOf20
  v20 := Tryd.zeroValue20
  t37 := Tryd.underlying22
  a37 := Tryd.isAgg22
  z37 := Tryd.sizeOf22
  v37 := Tryd.zeroValue22
  t70 := Tryd.underlying75
  a70 := Tryd.isAgg75
  z70 := Tryd.sizeOf75
  v70 := Tryd.zeroValue75
  t72 := Tryd.underlying77
  a72 := Tryd.isAgg77
  z72 := Tryd.sizeOf77
  v72 := Tryd.zeroValue77
  t164 := Tryd.underlying119
  a164 := Tryd.isAgg119
  z164 := Tryd.sizeOf119
  v164 := Tryd.zeroValue119 }
theorem Tryd.Builder_Extra_165 : Builder.Extra Tryd.prog Tryd.lays165_ren := {
  sizeBuilder := by kernel_rfl
  liesBuilder := by kernel_rfl
  t5 := Tryd.underlying5
  a5 := Tryd.isAgg5
  z5 := Tryd.sizeOf5
  v5 := Tryd.zeroValue5
  infoByte := by kernel_rfl
  cellsByte := by kernel_rfl
  sizeByte := by kernel_rfl
  neB5 := by decide }
open Go.RowKit in
/-- (*strings.Builder).Grow AT A BUILDER THAT HAS NOT BEEN WRITTEN ('var b strings.Builder; b.Grow(n)'): "Grow grows b's capacity, if necessary, to guarantee space for another n bytes.": it holds no byte behind it as before it. (LAID: no walk: one application.) -/
theorem Tryd.Builder_Grow_fresh (B b n : Nat) (w : World) (hB : B ≤ b) (hbk : w.heap[b]? = some (.cells #[.pointer none, .slice none 0 0] 77 (0, 0))) (hBw : B ≤ w.heap.size) (hn : n ≤ 281474976710656) :
    Calls Tryd.prog 73 #[.pointer (some ⟨b, 0, none⟩), .int .i64 n] w fun e w' => e = .returned (.tuple #[]) ∧ (Lib.BuilderAt 77 5 B b (.pointer (some ⟨b, 0, none⟩)) [] w' ∧ Below B w w') := Any.Builder_Grow_fresh Tryd.lays165 Tryd.Builder_Extra_165 B b n w hB hbk hBw hn
def Tryd.lays158_ren : Go.Shelf.Ren := ⟨fun | 158 => 53 | 165 => 73 | 166 => 74 | 167 => 75 | 169 => 76 | 230 => 69 | 203 => 61 | 240 => 88 | 241 => 89 | 197 => 71 | 118 => 83 | 168 => 84 | 270 => 85 | 262 => 78 | 276 => 93 | 277 => 72 | 260 => 87 | 242 => 66 | 313 => 92 | 278 => 80 | 274 => 81 | 275 => 82 | n => n, fun | 9 => 9 | 4 => 4 | 3 => 3 | 5 => 5 | 72 => 77 | 0 => 0 | 76 => 81 | 75 => 80 | 107 => 41 | 70 => 75 | 20 => 20 | 37 => 22 | 127 => 102 | 21 => 21 | 105 => 71 | 164 => 119 | 162 => 96 | 203 => 113 | 119 => 65 | 46 => 69 | 139 => 68 | 138 => 67 | 51 => 85 | 160 => 94 | 208 => 118 | 206 => 116 | 80 => 84 | n => n, fun | 13 => 6 | 3 => 0 | 4 => 1 | n => n⟩
theorem Tryd.lays158 : Go.Proofs.Lays.n158 Tryd.prog Tryd.lays158_ren := {
  mixed := by kernel_rfl
  f118 := Tryd.func83.trans (congrArg some (by kernel_rfl))
  f158 := Tryd.func53.trans (congrArg some (by kernel_rfl))
  f165 := Tryd.func73.trans (congrArg some (by kernel_rfl))
  f166 := Tryd.func74.trans (congrArg some (by kernel_rfl))
  f167 := Tryd.func75.trans (congrArg some (by kernel_rfl))
  f168 := Tryd.func84.trans (congrArg some (by kernel_rfl))
  f169 := Tryd.func76.trans (congrArg some (by kernel_rfl))
  f197 := Tryd.func71.trans (congrArg some (by kernel_rfl))
  f203 := Tryd.func61.trans (congrArg some (by kernel_rfl))
  f230 := Tryd.func69.trans (congrArg some (by kernel_rfl))
  f240 := Tryd.func88.trans (congrArg some (by kernel_rfl))
  f241 := Tryd.func89.trans (congrArg some (by kernel_rfl))
  f242 := Tryd.func66.trans (congrArg some (by kernel_rfl))
  f260 := Tryd.func87.trans (congrArg some (by kernel_rfl))
  f262 := Tryd.func78.trans (congrArg some (by kernel_rfl))
  f270 := Tryd.func85.trans (congrArg some (by kernel_rfl))
  f274 := Tryd.func81.trans (congrArg some (by kernel_rfl))
  f275 := Tryd.func82.trans (congrArg some (by kernel_rfl))
  f276 := Tryd.func93.trans (congrArg some (by kernel_rfl))
  f277 := Tryd.func72.trans (congrArg some (by kernel_rfl))
  f278 := Tryd.func80.trans (congrArg some (by kernel_rfl))
  f313 := Tryd.func92.trans (congrArg some (by kernel_rfl))
  t0 := Tryd.underlying0
  a0 := Tryd.isAgg0
  z0 := Tryd.sizeOf0
  v0 := Tryd.zeroValue0
  t3 := Tryd.underlying3
  a3 := Tryd.isAgg3
  z3 := Tryd.sizeOf3
  v3 := Tryd.zeroValue3
  t4 := Tryd.underlying4
  a4 := Tryd.isAgg4
  z4 := Tryd.sizeOf4
  v4 := Tryd.zeroValue4
  t5 := Tryd.underlying5
  a5 := Tryd.isAgg5
  z5 := Tryd.sizeOf5
  v5 := Tryd.zeroValue5
  t9 := Tryd.underlying9
  a9 := Tryd.isAgg9
  z9 := Tryd.sizeOf9
  v9 := Tryd.zeroValue9
  t20 := Tryd.underlying20
  a20 := Tryd.isAgg20
  z20 := Tryd.sizeOf20
  v20 := Tryd.zeroValue20
  t21 := Tryd.underlying21
  a21 := Tryd.isAgg21
  z21 := Tryd.sizeOf21
  v21 := Tryd.zeroValue21
  t37 := Tryd.underlying22
  a37 := Tryd.isAgg22
  z37 := Tryd.sizeOf22
  v37 := Tryd.zeroValue22
  t46 := Tryd.underlying69
  a46 := Tryd.isAgg69
  z46 := Tryd.sizeOf69
  v46 := Tryd.zeroValue69
  t51 := Tryd.underlying85
  a51 := Tryd.isAgg85
  z51 := Tryd.sizeOf85
  v51 := Tryd.zeroValue85
  t70 := Tryd.underlying75
  a70 := Tryd.isAgg75
  z70 := Tryd.sizeOf75
  v70 := Tryd.zeroValue75
  t72 := Tryd.underlying77
  a72 := Tryd.isAgg77
  z72 := Tryd.sizeOf77
  v72 := Tryd.zeroValue77
  t75 := Tryd.underlying80
  a75 := Tryd.isAgg80
  z75 := Tryd.sizeOf80
  v75 := Tryd.zeroValue80
  t76 := Tryd.underlying81
  a76 := Tryd.isAgg81
  z76 := Tryd.sizeOf81
  v76 := Tryd.zeroValue81
  t105 := Tryd.underlying71
  a105 := Tryd.isAgg71
  z105 := Tryd.sizeOf71
  v105 := Tryd.zeroValue71
  t107 := Tryd.underlying41
  a107 := Tryd.isAgg41
  z107 := Tryd.sizeOf41
  v107 := Tryd.zeroValue41
  t119 := Tryd.underlying65
  a119 := Tryd.isAgg65
  z119 := Tryd.sizeOf65
  t127 := Tryd.underlying102
  a127 := Tryd.isAgg102
  z127 := Tryd.sizeOf102
  v127 := Tryd.zeroValue102
  t138 := Tryd.underlying67
  a138 := Tryd.isAgg67
  z138 := Tryd.sizeOf67
  v138 := Tryd.zeroValue67
  t139 := Tryd.underlying68
  a139 := Tryd.isAgg68
  z139 := Tryd.sizeOf68
  v139 := Tryd.zeroValue68
  t160 := Tryd.underlying94
  a160 := Tryd.isAgg94
  z160 := Tryd.sizeOf94
  v160 := Tryd.zeroValue94
  t162 := Tryd.underlying96
  a162 := Tryd.isAgg96
  z162 := Tryd.sizeOf96
  v162 := Tryd.zeroValue96
  t164 := Tryd.underlying119
  a164 := Tryd.isAgg119
  z164 := Tryd.sizeOf119
  v164 := Tryd.zeroValue119
  t203 := Tryd.underlying113
  a203 := Tryd.isAgg113
  z203 := Tryd.sizeOf113
  v203 := Tryd.zeroValue113
  t206 := Tryd.underlying116
  a206 := Tryd.isAgg116
  z206 := Tryd.sizeOf116
  v206 := Tryd.zeroValue116
  t208 := Tryd.underlying118
  a208 := Tryd.isAgg118
  z208 := Tryd.sizeOf118
  v208 := Tryd.zeroValue118
  g3 := by kernel_rfl
  g4 := by kernel_rfl
  g13 := by kernel_rfl }
theorem Tryd.Builder_Extra_158 : Builder.Extra Tryd.prog Tryd.lays158_ren := {
  sizeBuilder := by kernel_rfl
  liesBuilder := by kernel_rfl
  t5 := Tryd.underlying5
  a5 := Tryd.isAgg5
  z5 := Tryd.sizeOf5
  v5 := Tryd.zeroValue5
  infoByte := by kernel_rfl
  cellsByte := by kernel_rfl
  sizeByte := by kernel_rfl
  neB5 := by decide }
open Go.RowKit in
/-- strings.ToUpper: "ToUpper returns s with all Unicode letters mapped to their upper case.": ON ASCII TEXT OF AT MOST 2^47 BYTES. Below the heap's end the world is as it was: where a letter turns, the call makes a builder and its buffer. (LAID: no walk: one application.) -/
theorem Tryd.strings_ToUpper_ascii (s : ByteArray) (w : World) (hs : s.size ≤ 140737488355328) (hascii : ∀ (j : Nat) (b : UInt8), s.data.toList[j]? = some b → b.toNat < 128) :
    Calls Tryd.prog 53 #[.string s] w fun e w' => e = .returned (.string ⟨(Lib.toUpperA s.data.toList).toArray⟩) ∧ Below w.heap.size w w' := Any.strings_ToUpper_ascii Tryd.lays158 Tryd.Builder_Extra_158 s w hs hascii
def Tryd.lays159_ren : Go.Shelf.Ren := ⟨fun | 159 => 55 | 165 => 73 | 166 => 74 | 167 => 75 | 169 => 76 | 230 => 69 | 204 => 60 | 240 => 88 | 241 => 89 | 197 => 71 | 118 => 83 | 168 => 84 | 270 => 85 | 262 => 78 | 276 => 93 | 277 => 72 | 260 => 87 | 242 => 66 | 313 => 92 | 278 => 80 | 274 => 81 | 275 => 82 | n => n, fun | 9 => 9 | 4 => 4 | 3 => 3 | 5 => 5 | 72 => 77 | 0 => 0 | 76 => 81 | 75 => 80 | 107 => 41 | 70 => 75 | 20 => 20 | 37 => 22 | 127 => 102 | 21 => 21 | 105 => 71 | 164 => 119 | 162 => 96 | 203 => 113 | 119 => 65 | 46 => 69 | 139 => 68 | 138 => 67 | 51 => 85 | 160 => 94 | 208 => 118 | 206 => 116 | 80 => 84 | n => n, fun | 13 => 6 | 3 => 0 | 4 => 1 | n => n⟩
theorem Tryd.lays159 : Go.Proofs.Lays.n159 Tryd.prog Tryd.lays159_ren := {
  mixed := by kernel_rfl
  f118 := Tryd.func83.trans (congrArg some (by kernel_rfl))
  f159 := Tryd.func55.trans (congrArg some (by kernel_rfl))
  f165 := Tryd.func73.trans (congrArg some (by kernel_rfl))
  f166 := Tryd.func74.trans (congrArg some (by kernel_rfl))
  f167 := Tryd.func75.trans (congrArg some (by kernel_rfl))
  f168 := Tryd.func84.trans (congrArg some (by kernel_rfl))
  f169 := Tryd.func76.trans (congrArg some (by kernel_rfl))
  f197 := Tryd.func71.trans (congrArg some (by kernel_rfl))
  f204 := Tryd.func60.trans (congrArg some (by kernel_rfl))
  f230 := Tryd.func69.trans (congrArg some (by kernel_rfl))
  f240 := Tryd.func88.trans (congrArg some (by kernel_rfl))
  f241 := Tryd.func89.trans (congrArg some (by kernel_rfl))
  f242 := Tryd.func66.trans (congrArg some (by kernel_rfl))
  f260 := Tryd.func87.trans (congrArg some (by kernel_rfl))
  f262 := Tryd.func78.trans (congrArg some (by kernel_rfl))
  f270 := Tryd.func85.trans (congrArg some (by kernel_rfl))
  f274 := Tryd.func81.trans (congrArg some (by kernel_rfl))
  f275 := Tryd.func82.trans (congrArg some (by kernel_rfl))
  f276 := Tryd.func93.trans (congrArg some (by kernel_rfl))
  f277 := Tryd.func72.trans (congrArg some (by kernel_rfl))
  f278 := Tryd.func80.trans (congrArg some (by kernel_rfl))
  f313 := Tryd.func92.trans (congrArg some (by kernel_rfl))
  t0 := Tryd.underlying0
  a0 := Tryd.isAgg0
  z0 := Tryd.sizeOf0
  v0 := Tryd.zeroValue0
  t3 := Tryd.underlying3
  a3 := Tryd.isAgg3
  z3 := Tryd.sizeOf3
  v3 := Tryd.zeroValue3
  t4 := Tryd.underlying4
  a4 := Tryd.isAgg4
  z4 := Tryd.sizeOf4
  v4 := Tryd.zeroValue4
  t5 := Tryd.underlying5
  a5 := Tryd.isAgg5
  z5 := Tryd.sizeOf5
  v5 := Tryd.zeroValue5
  t9 := Tryd.underlying9
  a9 := Tryd.isAgg9
  z9 := Tryd.sizeOf9
  v9 := Tryd.zeroValue9
  t20 := Tryd.underlying20
  a20 := Tryd.isAgg20
  z20 := Tryd.sizeOf20
  v20 := Tryd.zeroValue20
  t21 := Tryd.underlying21
  a21 := Tryd.isAgg21
  z21 := Tryd.sizeOf21
  v21 := Tryd.zeroValue21
  t37 := Tryd.underlying22
  a37 := Tryd.isAgg22
  z37 := Tryd.sizeOf22
  v37 := Tryd.zeroValue22
  t46 := Tryd.underlying69
  a46 := Tryd.isAgg69
  z46 := Tryd.sizeOf69
  v46 := Tryd.zeroValue69
  t51 := Tryd.underlying85
  a51 := Tryd.isAgg85
  z51 := Tryd.sizeOf85
  v51 := Tryd.zeroValue85
  t70 := Tryd.underlying75
  a70 := Tryd.isAgg75
  z70 := Tryd.sizeOf75
  v70 := Tryd.zeroValue75
  t72 := Tryd.underlying77
  a72 := Tryd.isAgg77
  z72 := Tryd.sizeOf77
  v72 := Tryd.zeroValue77
  t75 := Tryd.underlying80
  a75 := Tryd.isAgg80
  z75 := Tryd.sizeOf80
  v75 := Tryd.zeroValue80
  t76 := Tryd.underlying81
  a76 := Tryd.isAgg81
  z76 := Tryd.sizeOf81
  v76 := Tryd.zeroValue81
  t105 := Tryd.underlying71
  a105 := Tryd.isAgg71
  z105 := Tryd.sizeOf71
  v105 := Tryd.zeroValue71
  t107 := Tryd.underlying41
  a107 := Tryd.isAgg41
  z107 := Tryd.sizeOf41
  v107 := Tryd.zeroValue41
  t119 := Tryd.underlying65
  a119 := Tryd.isAgg65
  z119 := Tryd.sizeOf65
  t127 := Tryd.underlying102
  a127 := Tryd.isAgg102
  z127 := Tryd.sizeOf102
  v127 := Tryd.zeroValue102
  t138 := Tryd.underlying67
  a138 := Tryd.isAgg67
  z138 := Tryd.sizeOf67
  v138 := Tryd.zeroValue67
  t139 := Tryd.underlying68
  a139 := Tryd.isAgg68
  z139 := Tryd.sizeOf68
  v139 := Tryd.zeroValue68
  t160 := Tryd.underlying94
  a160 := Tryd.isAgg94
  z160 := Tryd.sizeOf94
  v160 := Tryd.zeroValue94
  t162 := Tryd.underlying96
  a162 := Tryd.isAgg96
  z162 := Tryd.sizeOf96
  v162 := Tryd.zeroValue96
  t164 := Tryd.underlying119
  a164 := Tryd.isAgg119
  z164 := Tryd.sizeOf119
  v164 := Tryd.zeroValue119
  t203 := Tryd.underlying113
  a203 := Tryd.isAgg113
  z203 := Tryd.sizeOf113
  v203 := Tryd.zeroValue113
  t206 := Tryd.underlying116
  a206 := Tryd.isAgg116
  z206 := Tryd.sizeOf116
  v206 := Tryd.zeroValue116
  t208 := Tryd.underlying118
  a208 := Tryd.isAgg118
  z208 := Tryd.sizeOf118
  v208 := Tryd.zeroValue118
  g3 := by kernel_rfl
  g4 := by kernel_rfl
  g13 := by kernel_rfl }
theorem Tryd.Builder_Extra_159 : Builder.Extra Tryd.prog Tryd.lays159_ren := {
  sizeBuilder := by kernel_rfl
  liesBuilder := by kernel_rfl
  t5 := Tryd.underlying5
  a5 := Tryd.isAgg5
  z5 := Tryd.sizeOf5
  v5 := Tryd.zeroValue5
  infoByte := by kernel_rfl
  cellsByte := by kernel_rfl
  sizeByte := by kernel_rfl
  neB5 := by decide }
open Go.RowKit in
/-- strings.ToLower: "ToLower returns s with all Unicode letters mapped to their lower case.": ON ASCII TEXT OF AT MOST 2^47 BYTES. Below the heap's end the world is as it was: where a letter turns, the call makes a builder and its buffer. (LAID: no walk: one application.) -/
theorem Tryd.strings_ToLower_ascii (s : ByteArray) (w : World) (hs : s.size ≤ 140737488355328) (hascii : ∀ (j : Nat) (b : UInt8), s.data.toList[j]? = some b → b.toNat < 128) :
    Calls Tryd.prog 55 #[.string s] w fun e w' => e = .returned (.string ⟨(Lib.toLowerA s.data.toList).toArray⟩) ∧ Below w.heap.size w w' := Any.strings_ToLower_ascii Tryd.lays159 Tryd.Builder_Extra_159 s w hs hascii
def Tryd.lays118_ren : Go.Shelf.Ren := ⟨fun | 118 => 83 | n => n, fun | 21 => 21 | 3 => 3 | 4 => 4 | n => n, fun | n => n⟩
theorem Tryd.lays118 : Go.Proofs.Lays.n118 Tryd.prog Tryd.lays118_ren := {
  mixed := by kernel_rfl
  f118 := Tryd.func83.trans (congrArg some (by kernel_rfl))
  t3 := Tryd.underlying3
  a3 := Tryd.isAgg3
  z3 := Tryd.sizeOf3
  v3 := Tryd.zeroValue3
  t4 := Tryd.underlying4
  a4 := Tryd.isAgg4
  z4 := Tryd.sizeOf4
  v4 := Tryd.zeroValue4
  t21 := Tryd.underlying21
  a21 := Tryd.isAgg21
  z21 := Tryd.sizeOf21
  v21 := Tryd.zeroValue21 }
/-- utf8.RuneLen: "RuneLen returns the number of bytes in the UTF-8 encoding of the rune. It returns -1 if the rune is not a valid value to encode in UTF-8.": IT RETURNS 'Lib.runeLen r'; the world is as it was. (LAID: no walk: one application.) -/
theorem Tryd.utf8_RuneLen (r : Int) (w : World) :
    Calls Tryd.prog 83 #[.int .i32 r] w fun e w' => e = .returned (.int .i64 (Lib.runeLen r)) ∧ w' = w := Any.utf8_RuneLen Tryd.lays118 r w
def Tryd.lays119_ren : Go.Shelf.Ren := ⟨fun | 119 => 45 | n => n, fun | 21 => 21 | 4 => 4 | n => n, fun | n => n⟩
theorem Tryd.lays119 : Go.Proofs.Lays.n119 Tryd.prog Tryd.lays119_ren := {
  mixed := by kernel_rfl
  f119 := Tryd.func45.trans (congrArg some (by kernel_rfl))
  t4 := Tryd.underlying4
  a4 := Tryd.isAgg4
  z4 := Tryd.sizeOf4
  v4 := Tryd.zeroValue4
  t21 := Tryd.underlying21
  a21 := Tryd.isAgg21
  z21 := Tryd.sizeOf21
  v21 := Tryd.zeroValue21 }
/-- utf8.ValidRune: "ValidRune reports whether r can be legally encoded as UTF-8. Code points that are out of range or a surrogate half are illegal.": IT RETURNS 'Lib.validRune r'; the world is as it was. (LAID: no walk: one application.) -/
theorem Tryd.utf8_ValidRune (r : Int) (w : World) :
    Calls Tryd.prog 45 #[.int .i32 r] w fun e w' => e = .returned (.bool (Lib.validRune r)) ∧ w' = w := Any.utf8_ValidRune Tryd.lays119 r w
open Go.RowKit in
/-- (*strings.Builder).String: "String returns the accumulated string.": OF A BUILDER THAT HOLDS AT LEAST ONE BYTE. ✋ THE MODEL FREEZES THOSE BYTES IN THE BUFFER (unsafe.String): a later write INTO them ends the model's run without an answer; a later append BEHIND them goes on. The statement's order of evaluation is drawn: one draw. THE FORM '_f': IT SAYS BESIDES THAT THE BUILDER IS A BUILDER STILL ('Lib.IsBuilderF', the same bytes): SO IT CAN BE WRITTEN ON: 'b.WriteString(b.String()[:k])'. (LAID: no walk: one application.) -/
theorem Tryd.Builder_String_f (B b : Nat) (l : List UInt8) (w : World) (h : Lib.IsBuilderF 77 5 B b (Lib.byteCells l) w) (h0 : l ≠ []) :
    Calls Tryd.prog 76 #[.pointer (some ⟨b, 0, none⟩)] w fun e w' => e = .returned (.string ⟨l.toArray⟩) ∧ (Lib.IsBuilderF 77 5 B b (Lib.byteCells l) w' ∧ Below B w w') := Any.Builder_String_f Tryd.lays169 Tryd.Builder_Extra_169 B b l w h h0
open Go.RowKit in
/-- (*strings.Builder).String OF A BUILDER THAT HOLDS NO BYTE: the empty string; THE FORM '_f': a builder still. (LAID: no walk: one application.) -/
theorem Tryd.Builder_String_empty_f (B b : Nat) (w : World) (h : Lib.IsBuilderF 77 5 B b [] w) (hBw : B ≤ w.heap.size) :
    Calls Tryd.prog 76 #[.pointer (some ⟨b, 0, none⟩)] w fun e w' => e = .returned (.string ⟨#[]⟩) ∧ (Lib.IsBuilderF 77 5 B b [] w' ∧ Below B w w') := Any.Builder_String_empty_f Tryd.lays169 Tryd.Builder_Extra_169 B b w h hBw
open Go.RowKit in
/-- (*strings.Builder).String: "String returns the accumulated string.": WHATEVER THE BUILDER HOLDS; THE FORM '_f': OF A BUILDER THAT MAY HAVE BEEN READ BEFORE; AND IT IS A BUILDER STILL, holding the same bytes: it can be written on. (LAID: no walk: one application.) -/
theorem Tryd.Builder_String_any_f (B b : Nat) (l : List UInt8) (w : World) (h : Lib.IsBuilderF 77 5 B b (Lib.byteCells l) w) (hBw : B ≤ w.heap.size) :
    Calls Tryd.prog 76 #[.pointer (some ⟨b, 0, none⟩)] w fun e w' => e = .returned (.string ⟨l.toArray⟩) ∧ (Lib.IsBuilderF 77 5 B b (Lib.byteCells l) w' ∧ Below B w w') := Any.Builder_String_any_f Tryd.lays169 Tryd.Builder_Extra_169 B b l w h hBw
open Go.RowKit in
/-- (*strings.Builder).String: "String returns the accumulated string.": OF A BUILDER THAT HOLDS AT LEAST ONE BYTE. ✋ THE MODEL FREEZES THOSE BYTES IN THE BUFFER (unsafe.String): a later write INTO them ends the model's run without an answer; a later append BEHIND them goes on. The statement's order of evaluation is drawn: one draw. THE FORM '_k': OVER 'Lib.IsBuilderF' (a builder that 'String()' may have read), AND WITH THE FRAME THAT REACHES ABOVE THE BUILDER: 'Lib.OthersKept': every block that is not b and is no row of uint8's stands as it stood: the iterator of a range among them. (LAID: no walk: one application.) -/
theorem Tryd.Builder_String_k (B b : Nat) (l : List UInt8) (w : World) (h : Lib.IsBuilderF 77 5 B b (Lib.byteCells l) w) (h0 : l ≠ []) :
    Calls Tryd.prog 76 #[.pointer (some ⟨b, 0, none⟩)] w fun e w' => e = .returned (.string ⟨l.toArray⟩) ∧ (Lib.IsBuilderF 77 5 B b (Lib.byteCells l) w' ∧ Below B w w' ∧ Lib.OthersKept 5 (some b) w w') := Any.Builder_String_k Tryd.lays169 Tryd.Builder_Extra_169 B b l w h h0
open Go.RowKit in
/-- (*strings.Builder).String OF A BUILDER THAT HOLDS NO BYTE: the empty string; THE FORM '_k': OVER 'Lib.IsBuilderF' (a builder that 'String()' may have read), AND WITH THE FRAME THAT REACHES ABOVE THE BUILDER: 'Lib.OthersKept': every block that is not b and is no row of uint8's stands as it stood: the iterator of a range among them. (LAID: no walk: one application.) -/
theorem Tryd.Builder_String_empty_k (B b : Nat) (w : World) (h : Lib.IsBuilderF 77 5 B b [] w) (hBw : B ≤ w.heap.size) :
    Calls Tryd.prog 76 #[.pointer (some ⟨b, 0, none⟩)] w fun e w' => e = .returned (.string ⟨#[]⟩) ∧ (Lib.IsBuilderF 77 5 B b [] w' ∧ Below B w w' ∧ Lib.OthersKept 5 (some b) w w') := Any.Builder_String_empty_k Tryd.lays169 Tryd.Builder_Extra_169 B b w h hBw
open Go.RowKit in
/-- (*strings.Builder).String: "String returns the accumulated string.": WHATEVER THE BUILDER HOLDS; THE FORM '_k': OVER 'Lib.IsBuilderF' (a builder that 'String()' may have read), AND WITH THE FRAME THAT REACHES ABOVE THE BUILDER: 'Lib.OthersKept': every block that is not b and is no row of uint8's stands as it stood: the iterator of a range among them. (LAID: no walk: one application.) -/
theorem Tryd.Builder_String_any_k (B b : Nat) (l : List UInt8) (w : World) (h : Lib.IsBuilderF 77 5 B b (Lib.byteCells l) w) (hBw : B ≤ w.heap.size) :
    Calls Tryd.prog 76 #[.pointer (some ⟨b, 0, none⟩)] w fun e w' => e = .returned (.string ⟨l.toArray⟩) ∧ (Lib.IsBuilderF 77 5 B b (Lib.byteCells l) w' ∧ Below B w w' ∧ Lib.OthersKept 5 (some b) w w') := Any.Builder_String_any_k Tryd.lays169 Tryd.Builder_Extra_169 B b l w h hBw
def Tryd.lays278_ren : Go.Shelf.Ren := ⟨fun | 278 => 80 | n => n, fun | 37 => 22 | 21 => 21 | 51 => 85 | 4 => 4 | 46 => 69 | 5 => 5 | n => n, fun | n => n⟩
theorem Tryd.lays278 : Go.Proofs.Lays.n278 Tryd.prog Tryd.lays278_ren := {
  mixed := by kernel_rfl
  f278 := Tryd.func80.trans (congrArg some (by kernel_rfl))
  t4 := Tryd.underlying4
  a4 := Tryd.isAgg4
  z4 := Tryd.sizeOf4
  v4 := Tryd.zeroValue4
  t5 := Tryd.underlying5
  a5 := Tryd.isAgg5
  z5 := Tryd.sizeOf5
  v5 := Tryd.zeroValue5
  t21 := Tryd.underlying21
  a21 := Tryd.isAgg21
  z21 := Tryd.sizeOf21
  v21 := Tryd.zeroValue21
  t37 := Tryd.underlying22
  a37 := Tryd.isAgg22
  z37 := Tryd.sizeOf22
  v37 := Tryd.zeroValue22
  t46 := Tryd.underlying69
  a46 := Tryd.isAgg69
  z46 := Tryd.sizeOf69
  v46 := Tryd.zeroValue69
  t51 := Tryd.underlying85
  a51 := Tryd.isAgg85
  z51 := Tryd.sizeOf85
  v51 := Tryd.zeroValue85 }
open Go.RowKit in
/-- unicode/utf8.appendRuneNonASCII (what AppendRune calls for all but ASCII), ONTO A ROW OF BYTES THAT THE CALL OWNS: every int32 that is no ASCII rune: 'Lib.runeCells r' goes in behind what the row holds. (LAID: no walk: one application.) -/
theorem Tryd.utf8_appendRuneNonASCII_plain (B : Nat) (v : Value) (n : Nat) (xs : List Value) (r : Int) (hr0 : -2147483648 ≤ r) (hr1 : r ≤ 2147483647) (hna : r < 0 ∨ 128 ≤ r) (w : World) (hown : w.ownsRow B 5 1 v n xs) (hlen : n + 4 ≤ 140737488355328) (hBw : B ≤ w.heap.size) :
    Calls Tryd.prog 80 #[v, .int .i32 r] w fun e w' => ∃ v', e = .returned v' ∧ w'.ownsRow B 5 1 v' (n + (Lib.runeCells r).length) (xs ++ Lib.runeCells r) ∧ ∃ o, (w.alloc o).grownBy w' v.ownBlock := Any.utf8_appendRuneNonASCII_plain Tryd.lays278 (by kernel_rfl) B v n xs r hr0 hr1 hna w hown hlen hBw
def Tryd.lays242_ren : Go.Shelf.Ren := ⟨fun | 242 => 66 | 278 => 80 | n => n, fun | 37 => 22 | 21 => 21 | 51 => 85 | 4 => 4 | 5 => 5 | 46 => 69 | n => n, fun | n => n⟩
theorem Tryd.lays242 : Go.Proofs.Lays.n242 Tryd.prog Tryd.lays242_ren := {
  mixed := by kernel_rfl
  f242 := Tryd.func66.trans (congrArg some (by kernel_rfl))
  f278 := Tryd.func80.trans (congrArg some (by kernel_rfl))
  t4 := Tryd.underlying4
  a4 := Tryd.isAgg4
  z4 := Tryd.sizeOf4
  v4 := Tryd.zeroValue4
  t5 := Tryd.underlying5
  a5 := Tryd.isAgg5
  z5 := Tryd.sizeOf5
  v5 := Tryd.zeroValue5
  t21 := Tryd.underlying21
  a21 := Tryd.isAgg21
  z21 := Tryd.sizeOf21
  v21 := Tryd.zeroValue21
  t37 := Tryd.underlying22
  a37 := Tryd.isAgg22
  z37 := Tryd.sizeOf22
  v37 := Tryd.zeroValue22
  t46 := Tryd.underlying69
  a46 := Tryd.isAgg69
  z46 := Tryd.sizeOf69
  v46 := Tryd.zeroValue69
  t51 := Tryd.underlying85
  a51 := Tryd.isAgg85
  z51 := Tryd.sizeOf85
  v51 := Tryd.zeroValue85 }
open Go.RowKit in
/-- unicode/utf8.AppendRune: "AppendRune appends the UTF-8 encoding of r to the end of p and returns the extended buffer. If the rune is out of range, it appends the encoding of RuneError.": ONTO A ROW OF BYTES THAT THE CALL OWNS (its head frozen or not): EVERY int32: 'Lib.runeCells r' goes in behind what the row holds; the world: one new block (the bytes as the call's variadic argument), then what 'append' does to the row. (LAID: no walk: one application.) -/
theorem Tryd.utf8_AppendRune_plain (B : Nat) (v : Value) (n : Nat) (xs : List Value) (r : Int) (hr0 : -2147483648 ≤ r) (hr1 : r ≤ 2147483647) (w : World) (hown : w.ownsRow B 5 1 v n xs) (hlen : n + 4 ≤ 140737488355328) (hBw : B ≤ w.heap.size) :
    Calls Tryd.prog 66 #[v, .int .i32 r] w fun e w' => ∃ v', e = .returned v' ∧ w'.ownsRow B 5 1 v' (n + (Lib.runeCells r).length) (xs ++ Lib.runeCells r) ∧ ∃ o, (w.alloc o).grownBy w' v.ownBlock := Any.utf8_AppendRune_plain Tryd.lays242 (by kernel_rfl) B v n xs r hr0 hr1 w hown hlen hBw
open Go.RowKit in
/-- (*strings.Builder).grow (no doc but "grow copies the buffer to a new, larger buffer so that there are at least n bytes of capacity beyond len(b.buf)."): AT A BUILDER WITHOUT A BUFFER: a new row of whatever bytes for its buffer, none of them its own yet. Three draws. (LAID: no walk: one application.) -/
theorem Tryd.Builder_grow_fresh_cap (B b n : Nat) (w : World) (hB : B ≤ b) (hbk : w.heap[b]? = some (.cells #[.pointer (some ⟨b, 0, none⟩), .slice none 0 0] 77 (0, 0))) (hBw : B ≤ w.heap.size) (hn : n ≤ 281474976710656) :
    Calls Tryd.prog 89 #[.pointer (some ⟨b, 0, none⟩), .int .i64 n] w fun e w' => e = .returned (.tuple #[]) ∧ (Lib.BuilderAt 77 5 B b (.pointer (some ⟨b, 0, none⟩)) [] w' ∧ Below B w w') ∧ ∃ p cap, w'.cell? ⟨b, 1, none⟩ = some (.slice p 0 cap) ∧ n ≤ cap := Any.Builder_grow_fresh_cap Tryd.lays241 Tryd.Builder_Extra_241 B b n w hB hbk hBw hn
open Go.RowKit in
/-- (*strings.Builder).Grow AT A BUILDER THAT HAS NOT BEEN WRITTEN ('var b strings.Builder; b.Grow(n)'): "Grow grows b's capacity, if necessary, to guarantee space for another n bytes.": it holds no byte behind it as before it. (LAID: no walk: one application.) -/
theorem Tryd.Builder_Grow_fresh_cap (B b n : Nat) (w : World) (hB : B ≤ b) (hbk : w.heap[b]? = some (.cells #[.pointer none, .slice none 0 0] 77 (0, 0))) (hBw : B ≤ w.heap.size) (hn : n ≤ 281474976710656) :
    Calls Tryd.prog 73 #[.pointer (some ⟨b, 0, none⟩), .int .i64 n] w fun e w' => e = .returned (.tuple #[]) ∧ (Lib.BuilderAt 77 5 B b (.pointer (some ⟨b, 0, none⟩)) [] w' ∧ Below B w w') ∧ ∃ p cap, w'.cell? ⟨b, 1, none⟩ = some (.slice p 0 cap) ∧ n ≤ cap := Any.Builder_Grow_fresh_cap Tryd.lays165 Tryd.Builder_Extra_165 B b n w hB hbk hBw hn
def Tryd.lays203_ren : Go.Shelf.Ren := ⟨fun | 203 => 61 | 262 => 78 | 313 => 92 | 274 => 81 | 275 => 82 | n => n, fun | 21 => 21 | 4 => 4 | 3 => 3 | 162 => 96 | 203 => 113 | 160 => 94 | 46 => 69 | 0 => 0 | 208 => 118 | 51 => 85 | 206 => 116 | n => n, fun | 13 => 6 | n => n⟩
theorem Tryd.lays203 : Go.Proofs.Lays.n203 Tryd.prog Tryd.lays203_ren := {
  mixed := by kernel_rfl
  f203 := Tryd.func61.trans (congrArg some (by kernel_rfl))
  f262 := Tryd.func78.trans (congrArg some (by kernel_rfl))
  f274 := Tryd.func81.trans (congrArg some (by kernel_rfl))
  f275 := Tryd.func82.trans (congrArg some (by kernel_rfl))
  f313 := Tryd.func92.trans (congrArg some (by kernel_rfl))
  t0 := Tryd.underlying0
  a0 := Tryd.isAgg0
  z0 := Tryd.sizeOf0
  v0 := Tryd.zeroValue0
  t3 := Tryd.underlying3
  a3 := Tryd.isAgg3
  z3 := Tryd.sizeOf3
  v3 := Tryd.zeroValue3
  t4 := Tryd.underlying4
  a4 := Tryd.isAgg4
  z4 := Tryd.sizeOf4
  v4 := Tryd.zeroValue4
  t21 := Tryd.underlying21
  a21 := Tryd.isAgg21
  z21 := Tryd.sizeOf21
  v21 := Tryd.zeroValue21
  t46 := Tryd.underlying69
  a46 := Tryd.isAgg69
  z46 := Tryd.sizeOf69
  v46 := Tryd.zeroValue69
  t51 := Tryd.underlying85
  a51 := Tryd.isAgg85
  z51 := Tryd.sizeOf85
  v51 := Tryd.zeroValue85
  t160 := Tryd.underlying94
  a160 := Tryd.isAgg94
  z160 := Tryd.sizeOf94
  v160 := Tryd.zeroValue94
  t162 := Tryd.underlying96
  a162 := Tryd.isAgg96
  z162 := Tryd.sizeOf96
  v162 := Tryd.zeroValue96
  t203 := Tryd.underlying113
  a203 := Tryd.isAgg113
  z203 := Tryd.sizeOf113
  v203 := Tryd.zeroValue113
  t206 := Tryd.underlying116
  a206 := Tryd.isAgg116
  z206 := Tryd.sizeOf116
  v206 := Tryd.zeroValue116
  t208 := Tryd.underlying118
  a208 := Tryd.isAgg118
  z208 := Tryd.sizeOf118
  v208 := Tryd.zeroValue118
  g13 := by kernel_rfl }
open Go.RowKit Go.Lib in
theorem Tryd.unicode_ToUpper (r : Int) (w : World) (h : r ≤ 127) :
    Calls Tryd.prog 61 #[.int .i32 r] w fun e w' => e = .returned (.int .i32 (Lib.toUpperR r)) ∧ w' = w := Any.unicode_ToUpper Tryd.lays203 r w h
def Tryd.lays204_ren : Go.Shelf.Ren := ⟨fun | 204 => 60 | 262 => 78 | 313 => 92 | 274 => 81 | 275 => 82 | n => n, fun | 21 => 21 | 4 => 4 | 3 => 3 | 162 => 96 | 203 => 113 | 160 => 94 | 46 => 69 | 0 => 0 | 208 => 118 | 51 => 85 | 206 => 116 | n => n, fun | 13 => 6 | n => n⟩
theorem Tryd.lays204 : Go.Proofs.Lays.n204 Tryd.prog Tryd.lays204_ren := {
  mixed := by kernel_rfl
  f204 := Tryd.func60.trans (congrArg some (by kernel_rfl))
  f262 := Tryd.func78.trans (congrArg some (by kernel_rfl))
  f274 := Tryd.func81.trans (congrArg some (by kernel_rfl))
  f275 := Tryd.func82.trans (congrArg some (by kernel_rfl))
  f313 := Tryd.func92.trans (congrArg some (by kernel_rfl))
  t0 := Tryd.underlying0
  a0 := Tryd.isAgg0
  z0 := Tryd.sizeOf0
  v0 := Tryd.zeroValue0
  t3 := Tryd.underlying3
  a3 := Tryd.isAgg3
  z3 := Tryd.sizeOf3
  v3 := Tryd.zeroValue3
  t4 := Tryd.underlying4
  a4 := Tryd.isAgg4
  z4 := Tryd.sizeOf4
  v4 := Tryd.zeroValue4
  t21 := Tryd.underlying21
  a21 := Tryd.isAgg21
  z21 := Tryd.sizeOf21
  v21 := Tryd.zeroValue21
  t46 := Tryd.underlying69
  a46 := Tryd.isAgg69
  z46 := Tryd.sizeOf69
  v46 := Tryd.zeroValue69
  t51 := Tryd.underlying85
  a51 := Tryd.isAgg85
  z51 := Tryd.sizeOf85
  v51 := Tryd.zeroValue85
  t160 := Tryd.underlying94
  a160 := Tryd.isAgg94
  z160 := Tryd.sizeOf94
  v160 := Tryd.zeroValue94
  t162 := Tryd.underlying96
  a162 := Tryd.isAgg96
  z162 := Tryd.sizeOf96
  v162 := Tryd.zeroValue96
  t203 := Tryd.underlying113
  a203 := Tryd.isAgg113
  z203 := Tryd.sizeOf113
  v203 := Tryd.zeroValue113
  t206 := Tryd.underlying116
  a206 := Tryd.isAgg116
  z206 := Tryd.sizeOf116
  v206 := Tryd.zeroValue116
  t208 := Tryd.underlying118
  a208 := Tryd.isAgg118
  z208 := Tryd.sizeOf118
  v208 := Tryd.zeroValue118
  g13 := by kernel_rfl }
open Go.RowKit Go.Lib in
theorem Tryd.unicode_ToLower (r : Int) (w : World) (h : r ≤ 127) :
    Calls Tryd.prog 60 #[.int .i32 r] w fun e w' => e = .returned (.int .i32 (Lib.toLowerR r)) ∧ w' = w := Any.unicode_ToLower Tryd.lays204 r w h
def Tryd.lays200_ren : Go.Shelf.Ren := ⟨fun | 200 => 58 | 261 => 77 | 311 => 90 | 312 => 91 | n => n, fun | 21 => 21 | 4 => 4 | 51 => 85 | 5 => 5 | 119 => 65 | 0 => 0 | 141 => 87 | 196 => 106 | 193 => 103 | 3 => 3 | 198 => 108 | 49 => 89 | 194 => 104 | 201 => 111 | 226 => 121 | 46 => 69 | 227 => 122 | n => n, fun | 7 => 2 | 8 => 3 | n => n⟩
theorem Tryd.lays200 : Go.Proofs.Lays.n200 Tryd.prog Tryd.lays200_ren := {
  mixed := by kernel_rfl
  f200 := Tryd.func58.trans (congrArg some (by kernel_rfl))
  f261 := Tryd.func77.trans (congrArg some (by kernel_rfl))
  f311 := Tryd.func90.trans (congrArg some (by kernel_rfl))
  f312 := Tryd.func91.trans (congrArg some (by kernel_rfl))
  t0 := Tryd.underlying0
  a0 := Tryd.isAgg0
  z0 := Tryd.sizeOf0
  v0 := Tryd.zeroValue0
  t3 := Tryd.underlying3
  a3 := Tryd.isAgg3
  z3 := Tryd.sizeOf3
  v3 := Tryd.zeroValue3
  t4 := Tryd.underlying4
  a4 := Tryd.isAgg4
  z4 := Tryd.sizeOf4
  v4 := Tryd.zeroValue4
  t5 := Tryd.underlying5
  a5 := Tryd.isAgg5
  z5 := Tryd.sizeOf5
  v5 := Tryd.zeroValue5
  t21 := Tryd.underlying21
  a21 := Tryd.isAgg21
  z21 := Tryd.sizeOf21
  v21 := Tryd.zeroValue21
  t46 := Tryd.underlying69
  a46 := Tryd.isAgg69
  z46 := Tryd.sizeOf69
  v46 := Tryd.zeroValue69
  t49 := Tryd.underlying89
  a49 := Tryd.isAgg89
  z49 := Tryd.sizeOf89
  v49 := Tryd.zeroValue89
  t51 := Tryd.underlying85
  a51 := Tryd.isAgg85
  z51 := Tryd.sizeOf85
  v51 := Tryd.zeroValue85
  t119 := Tryd.underlying65
  a119 := Tryd.isAgg65
  z119 := Tryd.sizeOf65
  t141 := Tryd.underlying87
  a141 := Tryd.isAgg87
  z141 := Tryd.sizeOf87
  v141 := Tryd.zeroValue87
  t193 := Tryd.underlying103
  a193 := Tryd.isAgg103
  z193 := Tryd.sizeOf103
  v193 := Tryd.zeroValue103
  t194 := Tryd.underlying104
  a194 := Tryd.isAgg104
  z194 := Tryd.sizeOf104
  v194 := Tryd.zeroValue104
  t196 := Tryd.underlying106
  a196 := Tryd.isAgg106
  z196 := Tryd.sizeOf106
  v196 := Tryd.zeroValue106
  t198 := Tryd.underlying108
  a198 := Tryd.isAgg108
  z198 := Tryd.sizeOf108
  v198 := Tryd.zeroValue108
  t201 := Tryd.underlying111
  a201 := Tryd.isAgg111
  z201 := Tryd.sizeOf111
  v201 := Tryd.zeroValue111
  t226 := Tryd.underlying121
  a226 := Tryd.isAgg121
  z226 := Tryd.sizeOf121
  v226 := Tryd.zeroValue121
  t227 := Tryd.underlying122
  a227 := Tryd.isAgg122
  z227 := Tryd.sizeOf122
  v227 := Tryd.zeroValue122
  g7 := by kernel_rfl
  g8 := by kernel_rfl }
open Go.RowKit Go.Lib in
theorem Tryd.unicode_IsLetter (c : Nat) (w : World) (hc : c < 256) (htab : Lib.TabIs Tryd.prog w "unicode.properties" .u8 Lib.propertiesTab) :
    Calls Tryd.prog 58 #[.int .i32 c] w fun e w' => e = .returned (.bool (Lib.isLetterL c)) ∧ w' = w := Any.unicode_IsLetter Tryd.lays200 (by kernel_rfl) c w hc htab
def Tryd.lays260_ren : Go.Shelf.Ren := ⟨fun | 260 => 87 | n => n, fun | 9 => 9 | 21 => 21 | 3 => 3 | 4 => 4 | 5 => 5 | 119 => 65 | 0 => 0 | 46 => 69 | 139 => 68 | 138 => 67 | n => n, fun | 3 => 0 | 4 => 1 | n => n⟩
theorem Tryd.lays260 : Go.Proofs.Lays.n260 Tryd.prog Tryd.lays260_ren := {
  mixed := by kernel_rfl
  f260 := Tryd.func87.trans (congrArg some (by kernel_rfl))
  t0 := Tryd.underlying0
  a0 := Tryd.isAgg0
  z0 := Tryd.sizeOf0
  v0 := Tryd.zeroValue0
  t3 := Tryd.underlying3
  a3 := Tryd.isAgg3
  z3 := Tryd.sizeOf3
  v3 := Tryd.zeroValue3
  t4 := Tryd.underlying4
  a4 := Tryd.isAgg4
  z4 := Tryd.sizeOf4
  v4 := Tryd.zeroValue4
  t5 := Tryd.underlying5
  a5 := Tryd.isAgg5
  z5 := Tryd.sizeOf5
  v5 := Tryd.zeroValue5
  t9 := Tryd.underlying9
  a9 := Tryd.isAgg9
  z9 := Tryd.sizeOf9
  v9 := Tryd.zeroValue9
  t21 := Tryd.underlying21
  a21 := Tryd.isAgg21
  z21 := Tryd.sizeOf21
  v21 := Tryd.zeroValue21
  t46 := Tryd.underlying69
  a46 := Tryd.isAgg69
  z46 := Tryd.sizeOf69
  v46 := Tryd.zeroValue69
  t119 := Tryd.underlying65
  a119 := Tryd.isAgg65
  z119 := Tryd.sizeOf65
  t138 := Tryd.underlying67
  a138 := Tryd.isAgg67
  z138 := Tryd.sizeOf67
  v138 := Tryd.zeroValue67
  t139 := Tryd.underlying68
  a139 := Tryd.isAgg68
  z139 := Tryd.sizeOf68
  v139 := Tryd.zeroValue68
  g3 := by kernel_rfl
  g4 := by kernel_rfl }
open Go.RowKit Go.Lib in
theorem Tryd.utf8_decodeRuneInStringSlow (s : ByteArray) (w : World) (hT : Lib.Utf8Tabs 0 1 w) :
    Calls Tryd.prog 87 #[.string s] w fun e w' => e = .returned (.tuple #[.int .i32 (Lib.decodeGo s).1, .int .i64 (Lib.decodeGo s).2]) ∧ Below w.heap.size w w' := Any.utf8_decodeRuneInStringSlow Tryd.lays260 s w hT
def Tryd.lays197_ren : Go.Shelf.Ren := ⟨fun | 197 => 71 | 260 => 87 | n => n, fun | 9 => 9 | 21 => 21 | 3 => 3 | 4 => 4 | 5 => 5 | 105 => 71 | 119 => 65 | 0 => 0 | 46 => 69 | 139 => 68 | 138 => 67 | n => n, fun | 3 => 0 | 4 => 1 | n => n⟩
theorem Tryd.lays197 : Go.Proofs.Lays.n197 Tryd.prog Tryd.lays197_ren := {
  mixed := by kernel_rfl
  f197 := Tryd.func71.trans (congrArg some (by kernel_rfl))
  f260 := Tryd.func87.trans (congrArg some (by kernel_rfl))
  t0 := Tryd.underlying0
  a0 := Tryd.isAgg0
  z0 := Tryd.sizeOf0
  v0 := Tryd.zeroValue0
  t3 := Tryd.underlying3
  a3 := Tryd.isAgg3
  z3 := Tryd.sizeOf3
  v3 := Tryd.zeroValue3
  t4 := Tryd.underlying4
  a4 := Tryd.isAgg4
  z4 := Tryd.sizeOf4
  v4 := Tryd.zeroValue4
  t5 := Tryd.underlying5
  a5 := Tryd.isAgg5
  z5 := Tryd.sizeOf5
  v5 := Tryd.zeroValue5
  t9 := Tryd.underlying9
  a9 := Tryd.isAgg9
  z9 := Tryd.sizeOf9
  v9 := Tryd.zeroValue9
  t21 := Tryd.underlying21
  a21 := Tryd.isAgg21
  z21 := Tryd.sizeOf21
  v21 := Tryd.zeroValue21
  t46 := Tryd.underlying69
  a46 := Tryd.isAgg69
  z46 := Tryd.sizeOf69
  v46 := Tryd.zeroValue69
  t105 := Tryd.underlying71
  a105 := Tryd.isAgg71
  z105 := Tryd.sizeOf71
  v105 := Tryd.zeroValue71
  t119 := Tryd.underlying65
  a119 := Tryd.isAgg65
  z119 := Tryd.sizeOf65
  t138 := Tryd.underlying67
  a138 := Tryd.isAgg67
  z138 := Tryd.sizeOf67
  v138 := Tryd.zeroValue67
  t139 := Tryd.underlying68
  a139 := Tryd.isAgg68
  z139 := Tryd.sizeOf68
  v139 := Tryd.zeroValue68
  g3 := by kernel_rfl
  g4 := by kernel_rfl }
open Go.RowKit Go.Lib in
/-- **unicode/utf8.DecodeRuneInString AT EVERY STRING.** (LAID: no walk: one application.) -/
theorem Tryd.utf8_DecodeRuneInString (s : ByteArray) (w : World) (hT : Lib.Utf8Tabs 0 1 w) :
    Calls Tryd.prog 71 #[.string s] w fun e w' => e = .returned (.tuple #[.int .i32 (Lib.decodeGo s).1, .int .i64 (Lib.decodeGo s).2]) ∧ Below w.heap.size w w' := Any.utf8_DecodeRuneInString Tryd.lays197 s w hT
def Tryd.lays311_ren : Go.Shelf.Ren := ⟨fun | 311 => 90 | n => n, fun | 193 => 103 | 49 => 89 | 4 => 4 | 3 => 3 | 0 => 0 | 226 => 121 | 198 => 108 | 46 => 69 | n => n, fun | n => n⟩
theorem Tryd.lays311 : Go.Proofs.Lays.n311 Tryd.prog Tryd.lays311_ren := {
  mixed := by kernel_rfl
  f311 := Tryd.func90.trans (congrArg some (by kernel_rfl))
  t0 := Tryd.underlying0
  a0 := Tryd.isAgg0
  z0 := Tryd.sizeOf0
  v0 := Tryd.zeroValue0
  t3 := Tryd.underlying3
  a3 := Tryd.isAgg3
  z3 := Tryd.sizeOf3
  v3 := Tryd.zeroValue3
  t4 := Tryd.underlying4
  a4 := Tryd.isAgg4
  z4 := Tryd.sizeOf4
  v4 := Tryd.zeroValue4
  t46 := Tryd.underlying69
  a46 := Tryd.isAgg69
  z46 := Tryd.sizeOf69
  v46 := Tryd.zeroValue69
  t49 := Tryd.underlying89
  a49 := Tryd.isAgg89
  z49 := Tryd.sizeOf89
  v49 := Tryd.zeroValue89
  t193 := Tryd.underlying103
  a193 := Tryd.isAgg103
  z193 := Tryd.sizeOf103
  v193 := Tryd.zeroValue103
  t198 := Tryd.underlying108
  a198 := Tryd.isAgg108
  z198 := Tryd.sizeOf108
  v198 := Tryd.zeroValue108
  t226 := Tryd.underlying121
  a226 := Tryd.isAgg121
  z226 := Tryd.sizeOf121
  v226 := Tryd.zeroValue121 }
open Go.RowKit Go.Lib in
theorem Tryd.unicode_is16_white (R oR : Nat) (z : Nat) (w : World) (hz : z < 65536) (hz0 : 255 < z) (c6 : w.cell? ⟨R, oR + 6, none⟩ = some (.int .u16 160)) (c7 : w.cell? ⟨R, oR + 7, none⟩ = some (.int .u16 5760)) (c8 : w.cell? ⟨R, oR + 8, none⟩ = some (.int .u16 5600)) (c9 : w.cell? ⟨R, oR + 9, none⟩ = some (.int .u16 8192)) (c10 : w.cell? ⟨R, oR + 10, none⟩ = some (.int .u16 8202)) (c11 : w.cell? ⟨R, oR + 11, none⟩ = some (.int .u16 1)) (c12 : w.cell? ⟨R, oR + 12, none⟩ = some (.int .u16 8232)) (c13 : w.cell? ⟨R, oR + 13, none⟩ = some (.int .u16 8233)) (c14 : w.cell? ⟨R, oR + 14, none⟩ = some (.int .u16 1)) (c15 : w.cell? ⟨R, oR + 15, none⟩ = some (.int .u16 8239)) (c16 : w.cell? ⟨R, oR + 16, none⟩ = some (.int .u16 8287)) (c17 : w.cell? ⟨R, oR + 17, none⟩ = some (.int .u16 48)) (c18 : w.cell? ⟨R, oR + 18, none⟩ = some (.int .u16 12288)) (c19 : w.cell? ⟨R, oR + 19, none⟩ = some (.int .u16 12288)) (c20 : w.cell? ⟨R, oR + 20, none⟩ = some (.int .u16 1)) :
    Calls Tryd.prog 90 #[.slice (some ⟨R, oR + 6, none⟩) 5 5, .int .u16 z] w fun e w' => e = .returned (.bool (Lib.isSpaceR z)) ∧ Below w.heap.size w w' := Any.unicode_is16_white Tryd.lays311 R oR z w hz hz0 c6 c7 c8 c9 c10 c11 c12 c13 c14 c15 c16 c17 c18 c19 c20
def Tryd.lays261_ren : Go.Shelf.Ren := ⟨fun | 261 => 77 | 311 => 90 | 312 => 91 | n => n, fun | 141 => 87 | 21 => 21 | 4 => 4 | 0 => 0 | 196 => 106 | 193 => 103 | 3 => 3 | 51 => 85 | 198 => 108 | 49 => 89 | 194 => 104 | 201 => 111 | 226 => 121 | 46 => 69 | 227 => 122 | n => n, fun | n => n⟩
theorem Tryd.lays261 : Go.Proofs.Lays.n261 Tryd.prog Tryd.lays261_ren := {
  mixed := by kernel_rfl
  f261 := Tryd.func77.trans (congrArg some (by kernel_rfl))
  f311 := Tryd.func90.trans (congrArg some (by kernel_rfl))
  f312 := Tryd.func91.trans (congrArg some (by kernel_rfl))
  t0 := Tryd.underlying0
  a0 := Tryd.isAgg0
  z0 := Tryd.sizeOf0
  v0 := Tryd.zeroValue0
  t3 := Tryd.underlying3
  a3 := Tryd.isAgg3
  z3 := Tryd.sizeOf3
  v3 := Tryd.zeroValue3
  t4 := Tryd.underlying4
  a4 := Tryd.isAgg4
  z4 := Tryd.sizeOf4
  v4 := Tryd.zeroValue4
  t21 := Tryd.underlying21
  a21 := Tryd.isAgg21
  z21 := Tryd.sizeOf21
  v21 := Tryd.zeroValue21
  t46 := Tryd.underlying69
  a46 := Tryd.isAgg69
  z46 := Tryd.sizeOf69
  v46 := Tryd.zeroValue69
  t49 := Tryd.underlying89
  a49 := Tryd.isAgg89
  z49 := Tryd.sizeOf89
  v49 := Tryd.zeroValue89
  t51 := Tryd.underlying85
  a51 := Tryd.isAgg85
  z51 := Tryd.sizeOf85
  v51 := Tryd.zeroValue85
  t141 := Tryd.underlying87
  a141 := Tryd.isAgg87
  z141 := Tryd.sizeOf87
  v141 := Tryd.zeroValue87
  t193 := Tryd.underlying103
  a193 := Tryd.isAgg103
  z193 := Tryd.sizeOf103
  v193 := Tryd.zeroValue103
  t194 := Tryd.underlying104
  a194 := Tryd.isAgg104
  z194 := Tryd.sizeOf104
  v194 := Tryd.zeroValue104
  t196 := Tryd.underlying106
  a196 := Tryd.isAgg106
  z196 := Tryd.sizeOf106
  v196 := Tryd.zeroValue106
  t198 := Tryd.underlying108
  a198 := Tryd.isAgg108
  z198 := Tryd.sizeOf108
  v198 := Tryd.zeroValue108
  t201 := Tryd.underlying111
  a201 := Tryd.isAgg111
  z201 := Tryd.sizeOf111
  v201 := Tryd.zeroValue111
  t226 := Tryd.underlying121
  a226 := Tryd.isAgg121
  z226 := Tryd.sizeOf121
  v226 := Tryd.zeroValue121
  t227 := Tryd.underlying122
  a227 := Tryd.isAgg122
  z227 := Tryd.sizeOf122
  v227 := Tryd.zeroValue122 }
open Go.RowKit Go.Lib in
/-- unicode.isExcludingLatin(White_Space, r), r beyond U+00FF or negative. (LAID: no walk: one application.) -/
theorem Tryd.unicode_isExcludingLatin_white (T oT R oR : Nat) (r : Int) (w : World) (hlo : -2147483648 ≤ r) (hhi : r ≤ 2147483647) (hr : r < 0 ∨ 255 < r) (h2 : w.cell? ⟨T, oT, none⟩ = some (.slice (some ⟨R, oR, none⟩) 7 7)) (h3 : w.cell? ⟨T, oT + 1, none⟩ = some (.slice none 0 0)) (h4 : w.cell? ⟨T, oT + 2, none⟩ = some (.int .i64 2)) (h5 : ∀ i, i < 21 → w.cell? ⟨R, oR + i, none⟩ = some (.int .u16 (whiteT.getD i 0))) :
    Calls Tryd.prog 77 #[.pointer (some ⟨T, oT, none⟩), .int .i32 r] w fun e w' => e = .returned (.bool (Lib.isSpaceZ r)) ∧ Below w.heap.size w w' := Any.unicode_isExcludingLatin_white Tryd.lays261 T oT R oR r w hlo hhi hr h2 h3 h4 h5
def Tryd.lays274_ren : Go.Shelf.Ren := ⟨fun | 274 => 81 | n => n, fun | 21 => 21 | 162 => 96 | 160 => 94 | 3 => 3 | 4 => 4 | 46 => 69 | 0 => 0 | 208 => 118 | 51 => 85 | 206 => 116 | n => n, fun | n => n⟩
theorem Tryd.lays274 : Go.Proofs.Lays.n274 Tryd.prog Tryd.lays274_ren := {
  mixed := by kernel_rfl
  f274 := Tryd.func81.trans (congrArg some (by kernel_rfl))
  t0 := Tryd.underlying0
  a0 := Tryd.isAgg0
  z0 := Tryd.sizeOf0
  v0 := Tryd.zeroValue0
  t3 := Tryd.underlying3
  a3 := Tryd.isAgg3
  z3 := Tryd.sizeOf3
  v3 := Tryd.zeroValue3
  t4 := Tryd.underlying4
  a4 := Tryd.isAgg4
  z4 := Tryd.sizeOf4
  v4 := Tryd.zeroValue4
  t21 := Tryd.underlying21
  a21 := Tryd.isAgg21
  z21 := Tryd.sizeOf21
  v21 := Tryd.zeroValue21
  t46 := Tryd.underlying69
  a46 := Tryd.isAgg69
  z46 := Tryd.sizeOf69
  v46 := Tryd.zeroValue69
  t51 := Tryd.underlying85
  a51 := Tryd.isAgg85
  z51 := Tryd.sizeOf85
  v51 := Tryd.zeroValue85
  t160 := Tryd.underlying94
  a160 := Tryd.isAgg94
  z160 := Tryd.sizeOf94
  v160 := Tryd.zeroValue94
  t162 := Tryd.underlying96
  a162 := Tryd.isAgg96
  z162 := Tryd.sizeOf96
  v162 := Tryd.zeroValue96
  t208 := Tryd.underlying118
  a208 := Tryd.isAgg118
  z208 := Tryd.sizeOf118
  v208 := Tryd.zeroValue118 }
open Go.RowKit Go.Lib in
theorem Tryd.unicode_lookupCaseRange (T : Array CaseRow) (R oR cap : Nat) (r : Int) (w : World) (hT : CaseTab R oR T w) (hok : CaseOk T) (hn : T.size ≤ 1000000000) :
    Calls Tryd.prog 81 #[.int .i32 r, .slice (some ⟨R, oR, none⟩) T.size cap] w fun e w' =>
      e = .returned (match lookupIdx T r (T.size + 1) 0 T.size with | some i => .pointer (some ⟨R, oR + i * 5, none⟩) | none => .pointer none) ∧ w' = w := Any.unicode_lookupCaseRange Tryd.lays274 T R oR cap r w hT hok hn
def Tryd.lays275_ren : Go.Shelf.Ren := ⟨fun | 275 => 82 | n => n, fun | 3 => 3 | 21 => 21 | 160 => 94 | 0 => 0 | 208 => 118 | 206 => 116 | 4 => 4 | 51 => 85 | n => n, fun | n => n⟩
theorem Tryd.lays275 : Go.Proofs.Lays.n275 Tryd.prog Tryd.lays275_ren := {
  mixed := by kernel_rfl
  f275 := Tryd.func82.trans (congrArg some (by kernel_rfl))
  t0 := Tryd.underlying0
  a0 := Tryd.isAgg0
  z0 := Tryd.sizeOf0
  v0 := Tryd.zeroValue0
  t3 := Tryd.underlying3
  a3 := Tryd.isAgg3
  z3 := Tryd.sizeOf3
  v3 := Tryd.zeroValue3
  t4 := Tryd.underlying4
  a4 := Tryd.isAgg4
  z4 := Tryd.sizeOf4
  v4 := Tryd.zeroValue4
  t21 := Tryd.underlying21
  a21 := Tryd.isAgg21
  z21 := Tryd.sizeOf21
  v21 := Tryd.zeroValue21
  t51 := Tryd.underlying85
  a51 := Tryd.isAgg85
  z51 := Tryd.sizeOf85
  v51 := Tryd.zeroValue85
  t160 := Tryd.underlying94
  a160 := Tryd.isAgg94
  z160 := Tryd.sizeOf94
  v160 := Tryd.zeroValue94
  t206 := Tryd.underlying116
  a206 := Tryd.isAgg116
  z206 := Tryd.sizeOf116
  v206 := Tryd.zeroValue116
  t208 := Tryd.underlying118
  a208 := Tryd.isAgg118
  z208 := Tryd.sizeOf118
  v208 := Tryd.zeroValue118 }
open Go.RowKit Go.Lib in
theorem Tryd.unicode_convertCase (c : Nat) (hc : c < 3) (r : Int) (A o : Nat) (x : CaseRow) (w : World) (hlo : (x.1 : Int) ≤ r) (hhi : r ≤ (x.2.1 : Int)) (hH : x.2.1 < 2147483647) (c0 : w.cell? ⟨A, o, none⟩ = some (.int .u32 x.1)) (cD : w.cell? ⟨A, o + 2 + c, none⟩ = some (.int .i32 (x.delta c))) :
    Calls Tryd.prog 82 #[.int .i64 c, .int .i32 r, .pointer (some ⟨A, o, none⟩)] w fun e w' => e = .returned (.int .i32 (wrap32 (convertR c r x))) ∧ ∃ q, w' = w.drewN q := Any.unicode_convertCase Tryd.lays275 c hc r A o x w hlo hhi hH c0 cD
def Tryd.lays313_ren : Go.Shelf.Ren := ⟨fun | 313 => 92 | 274 => 81 | 275 => 82 | n => n, fun | 3 => 3 | 21 => 21 | 162 => 96 | 4 => 4 | 160 => 94 | 46 => 69 | 0 => 0 | 208 => 118 | 51 => 85 | 206 => 116 | n => n, fun | n => n⟩
theorem Tryd.lays313 : Go.Proofs.Lays.n313 Tryd.prog Tryd.lays313_ren := {
  mixed := by kernel_rfl
  f274 := Tryd.func81.trans (congrArg some (by kernel_rfl))
  f275 := Tryd.func82.trans (congrArg some (by kernel_rfl))
  f313 := Tryd.func92.trans (congrArg some (by kernel_rfl))
  t0 := Tryd.underlying0
  a0 := Tryd.isAgg0
  z0 := Tryd.sizeOf0
  v0 := Tryd.zeroValue0
  t3 := Tryd.underlying3
  a3 := Tryd.isAgg3
  z3 := Tryd.sizeOf3
  v3 := Tryd.zeroValue3
  t4 := Tryd.underlying4
  a4 := Tryd.isAgg4
  z4 := Tryd.sizeOf4
  v4 := Tryd.zeroValue4
  t21 := Tryd.underlying21
  a21 := Tryd.isAgg21
  z21 := Tryd.sizeOf21
  v21 := Tryd.zeroValue21
  t46 := Tryd.underlying69
  a46 := Tryd.isAgg69
  z46 := Tryd.sizeOf69
  v46 := Tryd.zeroValue69
  t51 := Tryd.underlying85
  a51 := Tryd.isAgg85
  z51 := Tryd.sizeOf85
  v51 := Tryd.zeroValue85
  t160 := Tryd.underlying94
  a160 := Tryd.isAgg94
  z160 := Tryd.sizeOf94
  v160 := Tryd.zeroValue94
  t162 := Tryd.underlying96
  a162 := Tryd.isAgg96
  z162 := Tryd.sizeOf96
  v162 := Tryd.zeroValue96
  t206 := Tryd.underlying116
  a206 := Tryd.isAgg116
  z206 := Tryd.sizeOf116
  v206 := Tryd.zeroValue116
  t208 := Tryd.underlying118
  a208 := Tryd.isAgg118
  z208 := Tryd.sizeOf118
  v208 := Tryd.zeroValue118 }
open Go.RowKit Go.Lib in
theorem Tryd.unicode_to (c : Nat) (hc : c < 3) (r : Int) (T : Array CaseRow) (R oR cap : Nat) (w : World) (hT : CaseTab R oR T w) (hok : CaseOk2 T) (hn : T.size ≤ 1000000000) :
    Calls Tryd.prog 92 #[.int .i64 c, .int .i32 r, .slice (some ⟨R, oR, none⟩) T.size cap] w fun e w' => e = .returned (.tuple #[.int .i32 (toW T c r), .bool (lookupIdx T r (T.size + 1) 0 T.size).isSome]) ∧ ∃ q, w' = w.drewN q := Any.unicode_to Tryd.lays313 c hc r T R oR cap w hT hok hn
def Tryd.lays262_ren : Go.Shelf.Ren := ⟨fun | 262 => 78 | 313 => 92 | 274 => 81 | 275 => 82 | n => n, fun | 3 => 3 | 21 => 21 | 162 => 96 | 203 => 113 | 4 => 4 | 160 => 94 | 46 => 69 | 0 => 0 | 208 => 118 | 51 => 85 | 206 => 116 | n => n, fun | 13 => 6 | n => n⟩
theorem Tryd.lays262 : Go.Proofs.Lays.n262 Tryd.prog Tryd.lays262_ren := {
  mixed := by kernel_rfl
  f262 := Tryd.func78.trans (congrArg some (by kernel_rfl))
  f274 := Tryd.func81.trans (congrArg some (by kernel_rfl))
  f275 := Tryd.func82.trans (congrArg some (by kernel_rfl))
  f313 := Tryd.func92.trans (congrArg some (by kernel_rfl))
  t0 := Tryd.underlying0
  a0 := Tryd.isAgg0
  z0 := Tryd.sizeOf0
  v0 := Tryd.zeroValue0
  t3 := Tryd.underlying3
  a3 := Tryd.isAgg3
  z3 := Tryd.sizeOf3
  v3 := Tryd.zeroValue3
  t4 := Tryd.underlying4
  a4 := Tryd.isAgg4
  z4 := Tryd.sizeOf4
  v4 := Tryd.zeroValue4
  t21 := Tryd.underlying21
  a21 := Tryd.isAgg21
  z21 := Tryd.sizeOf21
  v21 := Tryd.zeroValue21
  t46 := Tryd.underlying69
  a46 := Tryd.isAgg69
  z46 := Tryd.sizeOf69
  v46 := Tryd.zeroValue69
  t51 := Tryd.underlying85
  a51 := Tryd.isAgg85
  z51 := Tryd.sizeOf85
  v51 := Tryd.zeroValue85
  t160 := Tryd.underlying94
  a160 := Tryd.isAgg94
  z160 := Tryd.sizeOf94
  v160 := Tryd.zeroValue94
  t162 := Tryd.underlying96
  a162 := Tryd.isAgg96
  z162 := Tryd.sizeOf96
  v162 := Tryd.zeroValue96
  t203 := Tryd.underlying113
  a203 := Tryd.isAgg113
  z203 := Tryd.sizeOf113
  v203 := Tryd.zeroValue113
  t206 := Tryd.underlying116
  a206 := Tryd.isAgg116
  z206 := Tryd.sizeOf116
  v206 := Tryd.zeroValue116
  t208 := Tryd.underlying118
  a208 := Tryd.isAgg118
  z208 := Tryd.sizeOf118
  v208 := Tryd.zeroValue118
  g13 := by kernel_rfl }
open Go.RowKit Go.Lib in
theorem Tryd.unicode_To (c : Nat) (hc : c < 3) (r : Int) (T : Array CaseRow) (w : World) (hV : CaseVar 6 T w) (hok : CaseOk2 T) (hn : T.size ≤ 1000000000) :
    Calls Tryd.prog 78 #[.int .i64 c, .int .i32 r] w fun e w' => e = .returned (.int .i32 (toW T c r)) ∧ ∃ q, w' = w.drewN q := Any.unicode_To Tryd.lays262 c hc r T w hV hok hn
open Go.RowKit Go.Lib in
theorem Tryd.unicode_ToLower_any (r : Int) (T : Array CaseRow) (w : World) (hV : CaseVar 6 T w) (hok : CaseOk2 T) (hn : T.size ≤ 1000000000) :
    Calls Tryd.prog 60 #[.int .i32 r] w fun e w' => e = .returned (.int .i32 (Lib.toLowerW T r)) ∧ ∃ q, w' = w.drewN q := Any.unicode_ToLower_any Tryd.lays204 r T w hV hok hn
open Go.RowKit Go.Lib in
theorem Tryd.unicode_ToUpper_any (r : Int) (T : Array CaseRow) (w : World) (hV : CaseVar 6 T w) (hok : CaseOk2 T) (hn : T.size ≤ 1000000000) :
    Calls Tryd.prog 61 #[.int .i32 r] w fun e w' => e = .returned (.int .i32 (Lib.toUpperW T r)) ∧ ∃ q, w' = w.drewN q := Any.unicode_ToUpper_any Tryd.lays203 r T w hV hok hn
open Go.RowKit Go.Lib in
theorem Tryd.unicode_ToLower_laid (r : Int) (w : World) (hV : CaseVar 6 caseA w) :
    Calls Tryd.prog 60 #[.int .i32 r] w fun e w' => e = .returned (.int .i32 (toLowerU r)) ∧ ∃ q, w' = w.drewN q := Any.unicode_ToLower_laid Tryd.lays204 r w hV
open Go.RowKit Go.Lib in
theorem Tryd.unicode_ToUpper_laid (r : Int) (w : World) (hV : CaseVar 6 caseA w) :
    Calls Tryd.prog 61 #[.int .i32 r] w fun e w' => e = .returned (.int .i32 (toUpperU r)) ∧ ∃ q, w' = w.drewN q := Any.unicode_ToUpper_laid Tryd.lays203 r w hV
def Tryd.lays270_ren : Go.Shelf.Ren := ⟨fun | 270 => 85 | n => n, fun | 70 => 75 | 3 => 3 | 0 => 0 | 72 => 77 | 37 => 22 | 5 => 5 | n => n, fun | n => n⟩
theorem Tryd.lays270 : Go.Proofs.Lays.n270 Tryd.prog Tryd.lays270_ren := {
  mixed := by kernel_rfl
  f270 := Tryd.func85.trans (congrArg some (by kernel_rfl))
  t0 := Tryd.underlying0
  a0 := Tryd.isAgg0
  z0 := Tryd.sizeOf0
  v0 := Tryd.zeroValue0
  t3 := Tryd.underlying3
  a3 := Tryd.isAgg3
  z3 := Tryd.sizeOf3
  v3 := Tryd.zeroValue3
  t37 := Tryd.underlying22
  a37 := Tryd.isAgg22
  z37 := Tryd.sizeOf22
  v37 := Tryd.zeroValue22
  t70 := Tryd.underlying75
  a70 := Tryd.isAgg75
  z70 := Tryd.sizeOf75
  v70 := Tryd.zeroValue75
  t72 := Tryd.underlying77
  a72 := Tryd.isAgg77
  z72 := Tryd.sizeOf77
  v72 := Tryd.zeroValue77 }
open Go.RowKit Go.Lib in
/-- (*strings.Builder).Cap: "Cap returns the capacity of the builder's underlying byte slice." (LAID: no walk: one application.) -/
theorem Tryd.Builder_Cap_cell (b : Nat) (p : Option Addr) (n cap : Nat) (w : World) (c1 : w.cell? ⟨b, 1, none⟩ = some (.slice p n cap)) :
    Calls Tryd.prog 85 #[.pointer (some ⟨b, 0, none⟩)] w fun e w' => e = .returned (.int .i64 cap) ∧ w' = w := Any.Builder_Cap_cell Tryd.lays270 b p n cap w c1
def Tryd.lays230_ren : Go.Shelf.Ren := ⟨fun | 230 => 69 | 197 => 71 | 118 => 83 | 165 => 73 | 166 => 74 | 168 => 84 | 270 => 85 | 167 => 75 | 169 => 76 | 260 => 87 | 240 => 88 | 241 => 89 | 242 => 66 | 276 => 93 | 277 => 72 | 278 => 80 | n => n, fun | 107 => 41 | 9 => 9 | 72 => 77 | 0 => 0 | 4 => 4 | 3 => 3 | 21 => 21 | 105 => 71 | 76 => 81 | 5 => 5 | 75 => 80 | 70 => 75 | 20 => 20 | 37 => 22 | 127 => 102 | 119 => 65 | 46 => 69 | 139 => 68 | 138 => 67 | 164 => 119 | 51 => 85 | 80 => 84 | n => n, fun | 3 => 0 | 4 => 1 | n => n⟩
theorem Tryd.lays230 : Go.Proofs.Lays.n230 Tryd.prog Tryd.lays230_ren := {
  mixed := by kernel_rfl
  f118 := Tryd.func83.trans (congrArg some (by kernel_rfl))
  f165 := Tryd.func73.trans (congrArg some (by kernel_rfl))
  f166 := Tryd.func74.trans (congrArg some (by kernel_rfl))
  f167 := Tryd.func75.trans (congrArg some (by kernel_rfl))
  f168 := Tryd.func84.trans (congrArg some (by kernel_rfl))
  f169 := Tryd.func76.trans (congrArg some (by kernel_rfl))
  f197 := Tryd.func71.trans (congrArg some (by kernel_rfl))
  f230 := Tryd.func69.trans (congrArg some (by kernel_rfl))
  f240 := Tryd.func88.trans (congrArg some (by kernel_rfl))
  f241 := Tryd.func89.trans (congrArg some (by kernel_rfl))
  f242 := Tryd.func66.trans (congrArg some (by kernel_rfl))
  f260 := Tryd.func87.trans (congrArg some (by kernel_rfl))
  f270 := Tryd.func85.trans (congrArg some (by kernel_rfl))
  f276 := Tryd.func93.trans (congrArg some (by kernel_rfl))
  f277 := Tryd.func72.trans (congrArg some (by kernel_rfl))
  f278 := Tryd.func80.trans (congrArg some (by kernel_rfl))
  t0 := Tryd.underlying0
  a0 := Tryd.isAgg0
  z0 := Tryd.sizeOf0
  v0 := Tryd.zeroValue0
  t3 := Tryd.underlying3
  a3 := Tryd.isAgg3
  z3 := Tryd.sizeOf3
  v3 := Tryd.zeroValue3
  t4 := Tryd.underlying4
  a4 := Tryd.isAgg4
  z4 := Tryd.sizeOf4
  v4 := Tryd.zeroValue4
  t5 := Tryd.underlying5
  a5 := Tryd.isAgg5
  z5 := Tryd.sizeOf5
  v5 := Tryd.zeroValue5
  t9 := Tryd.underlying9
  a9 := Tryd.isAgg9
  z9 := Tryd.sizeOf9
  v9 := Tryd.zeroValue9
  t20 := Tryd.underlying20
  a20 := Tryd.isAgg20
  z20 := Tryd.sizeOf20
  v20 := Tryd.zeroValue20
  t21 := Tryd.underlying21
  a21 := Tryd.isAgg21
  z21 := Tryd.sizeOf21
  v21 := Tryd.zeroValue21
  t37 := Tryd.underlying22
  a37 := Tryd.isAgg22
  z37 := Tryd.sizeOf22
  v37 := Tryd.zeroValue22
  t46 := Tryd.underlying69
  a46 := Tryd.isAgg69
  z46 := Tryd.sizeOf69
  v46 := Tryd.zeroValue69
  t51 := Tryd.underlying85
  a51 := Tryd.isAgg85
  z51 := Tryd.sizeOf85
  v51 := Tryd.zeroValue85
  t70 := Tryd.underlying75
  a70 := Tryd.isAgg75
  z70 := Tryd.sizeOf75
  v70 := Tryd.zeroValue75
  t72 := Tryd.underlying77
  a72 := Tryd.isAgg77
  z72 := Tryd.sizeOf77
  v72 := Tryd.zeroValue77
  t75 := Tryd.underlying80
  a75 := Tryd.isAgg80
  z75 := Tryd.sizeOf80
  v75 := Tryd.zeroValue80
  t76 := Tryd.underlying81
  a76 := Tryd.isAgg81
  z76 := Tryd.sizeOf81
  v76 := Tryd.zeroValue81
  t105 := Tryd.underlying71
  a105 := Tryd.isAgg71
  z105 := Tryd.sizeOf71
  v105 := Tryd.zeroValue71
  t107 := Tryd.underlying41
  a107 := Tryd.isAgg41
  z107 := Tryd.sizeOf41
  v107 := Tryd.zeroValue41
  t119 := Tryd.underlying65
  a119 := Tryd.isAgg65
  z119 := Tryd.sizeOf65
  t127 := Tryd.underlying102
  a127 := Tryd.isAgg102
  z127 := Tryd.sizeOf102
  v127 := Tryd.zeroValue102
  t138 := Tryd.underlying67
  a138 := Tryd.isAgg67
  z138 := Tryd.sizeOf67
  v138 := Tryd.zeroValue67
  t139 := Tryd.underlying68
  a139 := Tryd.isAgg68
  z139 := Tryd.sizeOf68
  v139 := Tryd.zeroValue68
  t164 := Tryd.underlying119
  a164 := Tryd.isAgg119
  z164 := Tryd.sizeOf119
  v164 := Tryd.zeroValue119
  g3 := by kernel_rfl
  g4 := by kernel_rfl }
theorem Tryd.Builder_Extra_230 : Builder.Extra Tryd.prog Tryd.lays230_ren := {
  sizeBuilder := by kernel_rfl
  liesBuilder := by kernel_rfl
  t5 := Tryd.underlying5
  a5 := Tryd.isAgg5
  z5 := Tryd.sizeOf5
  v5 := Tryd.zeroValue5
  infoByte := by kernel_rfl
  cellsByte := by kernel_rfl
  sizeByte := by kernel_rfl
  neB5 := by decide }
open Go.RowKit Go.Lib in
theorem Tryd.strings_Map_runes (g : Nat) (lb : Array Value) (eg : ∀ args w, (callFunc g args).run Tryd.prog w = .ok (.enter g args) w) (f : Int → Int) (s : ByteArray) (w : World) (hs : s.size < 35184372088832) (hf : MapAtRunes Tryd.prog g lb f w) (hnn : ∀ x : Nat, x ≤ 1114111 → 0 ≤ f x ∧ f x ≤ 2147483647) (hT : Lib.Utf8Tabs 0 1 w) :
    Calls Tryd.prog 69 #[.func (.func g) #[] lb, .string s] w fun e w' => e = .returned (.string ⟨(Lib.mapD f s.data.toList).toArray⟩) ∧ Below w.heap.size w w' := Any.strings_Map_runes Tryd.lays230 Tryd.Builder_Extra_230 g lb eg f s w hs hf hnn hT
open Go.RowKit Go.Lib in
theorem Tryd.strings_ToLower_beyond (s : ByteArray) (w : World) (hs : s.size < 35184372088832) (hhigh : ∃ (j : Nat) (b : UInt8), s.data.toList[j]? = some b ∧ 128 ≤ b.toNat) (hV : CaseVar 6 caseA w) (hT : Lib.Utf8Tabs 0 1 w) :
    Calls Tryd.prog 55 #[.string s] w fun e w' => e = .returned (.string ⟨(Lib.toLowerD s.data.toList).toArray⟩) ∧ Below w.heap.size w w' := Any.strings_ToLower_beyond Tryd.lays159 Tryd.Builder_Extra_159 s w hs hhigh hV hT
open Go.RowKit Go.Lib in
/-- **strings.ToLower AT EVERY STRING, VALID UTF-8 OR NOT.** (LAID: no walk: one application.) -/
theorem Tryd.strings_ToLower_any (s : ByteArray) (w : World) (hs : s.size < 35184372088832) (hV : CaseVar 6 caseA w) (hT : Lib.Utf8Tabs 0 1 w) :
    Calls Tryd.prog 55 #[.string s] w fun e w' => e = .returned (.string ⟨(Lib.toLowerD s.data.toList).toArray⟩) ∧ Below w.heap.size w w' := Any.strings_ToLower_any Tryd.lays159 Tryd.Builder_Extra_159 s w hs hV hT
open Go.RowKit Go.Lib in
theorem Tryd.strings_ToUpper_beyond (s : ByteArray) (w : World) (hs : s.size < 35184372088832) (hhigh : ∃ (j : Nat) (b : UInt8), s.data.toList[j]? = some b ∧ 128 ≤ b.toNat) (hV : CaseVar 6 caseA w) (hT : Lib.Utf8Tabs 0 1 w) :
    Calls Tryd.prog 53 #[.string s] w fun e w' => e = .returned (.string ⟨(Lib.toUpperD s.data.toList).toArray⟩) ∧ Below w.heap.size w w' := Any.strings_ToUpper_beyond Tryd.lays158 Tryd.Builder_Extra_158 s w hs hhigh hV hT
open Go.RowKit Go.Lib in
/-- **strings.ToUpper AT EVERY STRING, VALID UTF-8 OR NOT.** (LAID: no walk: one application.) -/
theorem Tryd.strings_ToUpper_any (s : ByteArray) (w : World) (hs : s.size < 35184372088832) (hV : CaseVar 6 caseA w) (hT : Lib.Utf8Tabs 0 1 w) :
    Calls Tryd.prog 53 #[.string s] w fun e w' => e = .returned (.string ⟨(Lib.toUpperD s.data.toList).toArray⟩) ∧ Below w.heap.size w w' := Any.strings_ToUpper_any Tryd.lays158 Tryd.Builder_Extra_158 s w hs hV hT
open Go.RowKit Go.Lib in
theorem Tryd.unicode_is16_any (T : Array Rg) (R oR cap : Nat) (z : Nat) (w : World) (hz : z < 65536) (hT : RgTab .u16 R oR T w) (hok : RgOk 65536 T) (hn : T.size ≤ 1000000000) :
    Calls Tryd.prog 90 #[.slice (some ⟨R, oR, none⟩) T.size cap, .int .u16 z] w fun e w' => e = .returned (.bool (is16Go T z)) ∧ ∃ q, w' = w.drewN q := Any.unicode_is16_any Tryd.lays311 T R oR cap z w hz hT hok hn
def Tryd.lays312_ren : Go.Shelf.Ren := ⟨fun | 312 => 91 | n => n, fun | 194 => 104 | 51 => 85 | 4 => 4 | 3 => 3 | 0 => 0 | 227 => 122 | 201 => 111 | 46 => 69 | n => n, fun | n => n⟩
theorem Tryd.lays312 : Go.Proofs.Lays.n312 Tryd.prog Tryd.lays312_ren := {
  mixed := by kernel_rfl
  f312 := Tryd.func91.trans (congrArg some (by kernel_rfl))
  t0 := Tryd.underlying0
  a0 := Tryd.isAgg0
  z0 := Tryd.sizeOf0
  v0 := Tryd.zeroValue0
  t3 := Tryd.underlying3
  a3 := Tryd.isAgg3
  z3 := Tryd.sizeOf3
  v3 := Tryd.zeroValue3
  t4 := Tryd.underlying4
  a4 := Tryd.isAgg4
  z4 := Tryd.sizeOf4
  v4 := Tryd.zeroValue4
  t46 := Tryd.underlying69
  a46 := Tryd.isAgg69
  z46 := Tryd.sizeOf69
  v46 := Tryd.zeroValue69
  t51 := Tryd.underlying85
  a51 := Tryd.isAgg85
  z51 := Tryd.sizeOf85
  v51 := Tryd.zeroValue85
  t194 := Tryd.underlying104
  a194 := Tryd.isAgg104
  z194 := Tryd.sizeOf104
  v194 := Tryd.zeroValue104
  t201 := Tryd.underlying111
  a201 := Tryd.isAgg111
  z201 := Tryd.sizeOf111
  v201 := Tryd.zeroValue111
  t227 := Tryd.underlying122
  a227 := Tryd.isAgg122
  z227 := Tryd.sizeOf122
  v227 := Tryd.zeroValue122 }
open Go.RowKit Go.Lib in
theorem Tryd.unicode_is32_any (T : Array Rg) (R oR cap : Nat) (z : Nat) (w : World) (hz : z < 4294967296) (hT : RgTab .u32 R oR T w) (hok : RgOk 4294967296 T) (hn : T.size ≤ 1000000000) :
    Calls Tryd.prog 91 #[.slice (some ⟨R, oR, none⟩) T.size cap, .int .u32 z] w fun e w' => e = .returned (.bool (is32Go T z)) ∧ Below w.heap.size w w' := Any.unicode_is32_any Tryd.lays312 T R oR cap z w hz hT hok hn
open Go.RowKit Go.Lib in
theorem Tryd.unicode_isExcludingLatin_any (Tb oT : Nat) (T : RTab) (r : Int) (w : World) (hlo : -2147483648 ≤ r) (hhi : r ≤ 2147483647) (hA : RTabAt Tb oT T w) (hok : RTabOk T) :
    Calls Tryd.prog 77 #[.pointer (some ⟨Tb, oT, none⟩), .int .i32 r] w fun e w' => e = .returned (.bool (exclGo T r)) ∧ Below w.heap.size w w' := Any.unicode_isExcludingLatin_any Tryd.lays261 Tb oT T r w hlo hhi hA hok
open Go.RowKit Go.Lib in
/-- unicode.IsLetter(r) AT EVERY int32, over whatever table the variable unicode.Letter leads to. (LAID: no walk: one application.) -/
theorem Tryd.unicode_IsLetter_any (T : RTab) (r : Int) (w : World) (hlo : -2147483648 ≤ r) (hhi : r ≤ 2147483647) (htab : Lib.TabIs Tryd.prog w "unicode.properties" .u8 Lib.propertiesTab) (hV : RVar 3 T w) (hok : RTabOk T) :
    Calls Tryd.prog 58 #[.int .i32 r] w fun e w' => e = .returned (.bool (if latin1 r then isLetterL r else exclGo T r)) ∧ Below w.heap.size w w' := Any.unicode_IsLetter_any Tryd.lays200 (by kernel_rfl) T r w hlo hhi htab hV hok
open Go.RowKit Go.Lib in
/-- unicode.IsLetter(r) AT EVERY int32, the tables as their initialisers lay them: 'Lib.isLetterU r'. (LAID: no walk: one application.) -/
theorem Tryd.unicode_IsLetter_all (r : Int) (w : World) (hlo : -2147483648 ≤ r) (hhi : r ≤ 2147483647) (htab : Lib.TabIs Tryd.prog w "unicode.properties" .u8 Lib.propertiesTab) (hV : RVar 3 letterT w) :
    Calls Tryd.prog 58 #[.int .i32 r] w fun e w' => e = .returned (.bool (isLetterU r)) ∧ Below w.heap.size w w' := Any.unicode_IsLetter_all Tryd.lays200 (by kernel_rfl) r w hlo hhi htab hV
open Go.RowKit Go.Lib in
/-- **strings.Map(mapping, s) AT EVERY STRING, AT WHATEVER FUNCTION VALUE: IT MAY DROP RUNES (a negative result); IT MAY GROW THE HEAP.** (LAID: no walk: one application.) -/
theorem Tryd.strings_Map_grows (g : Nat) (lb : Array Value) (eg : ∀ args w, (callFunc g args).run Tryd.prog w = .ok (.enter g args) w) (f : Int → Int) (s : ByteArray) (w : World) (hs : s.size < 35184372088832) (hf : MapGrows Tryd.prog g lb f w) (hnn : ∀ x : Nat, x ≤ 1114111 → -2147483648 ≤ f x ∧ f x ≤ 2147483647) (hT : Lib.Utf8Tabs 0 1 w) :
    Calls Tryd.prog 69 #[.func (.func g) #[] lb, .string s] w fun e w' => e = .returned (.string ⟨(Lib.mapD f s.data.toList).toArray⟩) ∧ Below w.heap.size w w' := Any.strings_Map_grows Tryd.lays230 Tryd.Builder_Extra_230 g lb eg f s w hs hf hnn hT
def Tryd.laysSlU9_ren : Go.Shelf.Ren := ⟨fun | 9 => 52 | 15 => 72 | 16 => 64 | 17 => 61 | 26 => 70 | 27 => 66 | 28 => 78 | 32 => 86 | 33 => 80 | 34 => 92 | 35 => 81 | 36 => 82 | n => n, fun | 22 => 22 | 4 => 4 | 3 => 3 | 0 => 0 | 5 => 5 | 30 => 41 | 35 => 71 | 21 => 21 | 39 => 85 | 45 => 96 | 43 => 113 | 46 => 65 | 33 => 69 | 49 => 68 | 48 => 67 | 50 => 94 | 56 => 118 | 54 => 116 | n => n, fun | 1 => 6 | 2 => 0 | 3 => 1 | n => n⟩
theorem Tryd.laysSlU9 : Go.Proofs.SlLaysU.n9 Tryd.prog Tryd.laysSlU9_ren := {
  mixed := by kernel_rfl
  f9 := Tryd.func52.trans (congrArg some (by kernel_rfl))
  f15 := Tryd.func72.trans (congrArg some (by kernel_rfl))
  t0 := Tryd.underlying0
  a0 := Tryd.isAgg0
  z0 := Tryd.sizeOf0
  v0 := Tryd.zeroValue0
  t3 := Tryd.underlying3
  a3 := Tryd.isAgg3
  z3 := Tryd.sizeOf3
  v3 := Tryd.zeroValue3
  t4 := Tryd.underlying4
  a4 := Tryd.isAgg4
  z4 := Tryd.sizeOf4
  v4 := Tryd.zeroValue4
  t5 := Tryd.underlying5
  a5 := Tryd.isAgg5
  z5 := Tryd.sizeOf5
  v5 := Tryd.zeroValue5
  t22 := Tryd.underlying22
  a22 := Tryd.isAgg22
  z22 := Tryd.sizeOf22
  v22 := Tryd.zeroValue22
  t30 := Tryd.underlying41
  a30 := Tryd.isAgg41
  z30 := Tryd.sizeOf41
  v30 := Tryd.zeroValue41
  i5 := by kernel_rfl }
open Go.RowKit Go.Lib in
/-- bytes.ToUpper ON ASCII TEXT of one byte or more, at most 2^47: "ToUpper returns a copy of the byte slice s with all Unicode letters mapped to their upper case.": A NEW []byte ('Lib.FreshBytes': Derived/Lib/SlFresh.lean) of the bytes 'Lib.toUpperA' (a hand of the authors' house's: Derived/Lib/Case.lean); below the heap's end the world is as it was. The slice's bytes are told by a ByteArray ('Lib.Bytes'). BOTH ROADS OF GO's TEXT ARE WALKED: no letter turns: 'append([]byte(""), s...)'; one does: 'bytealg.MakeNoZero(len(s))[:len(s):len(s)]' and the second loop. (LAID: no walk: one application.) -/
theorem Tryd.bytes_ToUpper_ascii (b o c : Nat) (s : ByteArray) (w : World) (hc : Lib.Bytes w b o s) (h0 : 0 < s.size) (hs : s.size ≤ 140737488355328) (hascii : ∀ (j : Nat) (x : UInt8), s.data.toList[j]? = some x → x.toNat < 128) :
    Calls Tryd.prog 52 #[.slice (some ⟨b, o, none⟩) s.size c] w fun e w' => ∃ v', e = .returned v' ∧ Lib.FreshBytes w.heap.size w' v' (Lib.toUpperA s.data.toList) ∧ Below w.heap.size w w' := Any.bytes_ToUpper_ascii Tryd.laysSlU9 b o c s w hc h0 hs hascii
def Tryd.laysSlU10_ren : Go.Shelf.Ren := ⟨fun | 10 => 54 | 15 => 72 | 16 => 64 | 18 => 60 | 26 => 70 | 27 => 66 | 28 => 78 | 32 => 86 | 33 => 80 | 34 => 92 | 35 => 81 | 36 => 82 | n => n, fun | 22 => 22 | 4 => 4 | 3 => 3 | 0 => 0 | 5 => 5 | 30 => 41 | 35 => 71 | 21 => 21 | 39 => 85 | 45 => 96 | 43 => 113 | 46 => 65 | 33 => 69 | 49 => 68 | 48 => 67 | 50 => 94 | 56 => 118 | 54 => 116 | n => n, fun | 1 => 6 | 2 => 0 | 3 => 1 | n => n⟩
theorem Tryd.laysSlU10 : Go.Proofs.SlLaysU.n10 Tryd.prog Tryd.laysSlU10_ren := {
  mixed := by kernel_rfl
  f10 := Tryd.func54.trans (congrArg some (by kernel_rfl))
  f15 := Tryd.func72.trans (congrArg some (by kernel_rfl))
  t0 := Tryd.underlying0
  a0 := Tryd.isAgg0
  z0 := Tryd.sizeOf0
  v0 := Tryd.zeroValue0
  t3 := Tryd.underlying3
  a3 := Tryd.isAgg3
  z3 := Tryd.sizeOf3
  v3 := Tryd.zeroValue3
  t4 := Tryd.underlying4
  a4 := Tryd.isAgg4
  z4 := Tryd.sizeOf4
  v4 := Tryd.zeroValue4
  t5 := Tryd.underlying5
  a5 := Tryd.isAgg5
  z5 := Tryd.sizeOf5
  v5 := Tryd.zeroValue5
  t22 := Tryd.underlying22
  a22 := Tryd.isAgg22
  z22 := Tryd.sizeOf22
  v22 := Tryd.zeroValue22
  t30 := Tryd.underlying41
  a30 := Tryd.isAgg41
  z30 := Tryd.sizeOf41
  v30 := Tryd.zeroValue41
  i5 := by kernel_rfl }
open Go.RowKit Go.Lib in
/-- bytes.ToLower ON ASCII TEXT of one byte or more, at most 2^47: "ToLower returns a copy of the byte slice s with all Unicode letters mapped to their lower case.": A NEW []byte ('Lib.FreshBytes': Derived/Lib/SlFresh.lean) of the bytes 'Lib.toLowerA' (a hand of the authors' house's: Derived/Lib/Case.lean); below the heap's end the world is as it was. The slice's bytes are told by a ByteArray ('Lib.Bytes'). BOTH ROADS OF GO's TEXT ARE WALKED: no letter turns: 'append([]byte(""), s...)'; one does: 'bytealg.MakeNoZero(len(s))[:len(s):len(s)]' and the second loop. (LAID: no walk: one application.) -/
theorem Tryd.bytes_ToLower_ascii (b o c : Nat) (s : ByteArray) (w : World) (hc : Lib.Bytes w b o s) (h0 : 0 < s.size) (hs : s.size ≤ 140737488355328) (hascii : ∀ (j : Nat) (x : UInt8), s.data.toList[j]? = some x → x.toNat < 128) :
    Calls Tryd.prog 54 #[.slice (some ⟨b, o, none⟩) s.size c] w fun e w' => ∃ v', e = .returned v' ∧ Lib.FreshBytes w.heap.size w' v' (Lib.toLowerA s.data.toList) ∧ Below w.heap.size w w' := Any.bytes_ToLower_ascii Tryd.laysSlU10 b o c s w hc h0 hs hascii
open Go.RowKit Go.Lib in
/-- bytes.ToUpper of no byte (nil too, whatever the address): '[]byte("")' itself comes back: a slice of no byte THAT IS NOT nil, at the head of a new, empty row (which bears the run-time's mark). (LAID: no walk: one application.) -/
theorem Tryd.bytes_ToUpper_empty (p : Option Addr) (c : Nat) (w : World) :
    Calls Tryd.prog 52 #[.slice p 0 c] w fun e w' => e = .returned (.slice (some ⟨w.heap.size, 0, none⟩) 0 0) ∧ w' = w.alloc (.cells #[] 5 (0, 1)) := Any.bytes_ToUpper_empty Tryd.laysSlU9 p c w
open Go.RowKit Go.Lib in
/-- bytes.ToLower of no byte (nil too, whatever the address): '[]byte("")' itself comes back: a slice of no byte THAT IS NOT nil, at the head of a new, empty row (which bears the run-time's mark). (LAID: no walk: one application.) -/
theorem Tryd.bytes_ToLower_empty (p : Option Addr) (c : Nat) (w : World) :
    Calls Tryd.prog 54 #[.slice p 0 c] w fun e w' => e = .returned (.slice (some ⟨w.heap.size, 0, none⟩) 0 0) ∧ w' = w.alloc (.cells #[] 5 (0, 1)) := Any.bytes_ToLower_empty Tryd.laysSlU10 p c w
open Go.RowKit Go.Lib in
/-- bytes.ToUpper on ASCII text, IN THE SHELF's USUAL WORDS: s AT WHATEVER ADDRESS, its cells as 'open_ints' hands them ('a.add i'; the numbers 'xs'), each below 128. (LAID: no walk: one application.) -/
theorem Tryd.bytes_ToUpper_at (a : Addr) (n c : Nat) (xs : List Int) (w : World) (hx : xs.length = n) (hasc : ∀ x ∈ xs, 0 ≤ x ∧ x < 128) (hc : ∀ i, i < n → w.cell? (a.add i) = some (.int .u8 (xs.getD i 0))) (h0 : 0 < n) (hs : n ≤ 140737488355328) :
    Calls Tryd.prog 52 #[.slice (some a) n c] w fun e w' => ∃ v', e = .returned v' ∧ Lib.FreshBytes w.heap.size w' v' (Lib.toUpperA (Lib.bytesOf xs)) ∧ Below w.heap.size w w' := Any.bytes_ToUpper_at Tryd.laysSlU9 a n c xs w hx hasc hc h0 hs
open Go.RowKit Go.Lib in
/-- bytes.ToLower on ASCII text, IN THE SHELF's USUAL WORDS: s AT WHATEVER ADDRESS, its cells as 'open_ints' hands them ('a.add i'; the numbers 'xs'), each below 128. (LAID: no walk: one application.) -/
theorem Tryd.bytes_ToLower_at (a : Addr) (n c : Nat) (xs : List Int) (w : World) (hx : xs.length = n) (hasc : ∀ x ∈ xs, 0 ≤ x ∧ x < 128) (hc : ∀ i, i < n → w.cell? (a.add i) = some (.int .u8 (xs.getD i 0))) (h0 : 0 < n) (hs : n ≤ 140737488355328) :
    Calls Tryd.prog 54 #[.slice (some a) n c] w fun e w' => ∃ v', e = .returned v' ∧ Lib.FreshBytes w.heap.size w' v' (Lib.toLowerA (Lib.bytesOf xs)) ∧ Below w.heap.size w w' := Any.bytes_ToLower_at Tryd.laysSlU10 a n c xs w hx hasc hc h0 hs
def Tryd.laysValid_ren : Go.Shelf.Ren := ⟨fun | 196 => 44 | 259 => 68 | n => n, fun | 9 => 9 | 4 => 4 | 3 => 3 | 5 => 5 | 12 => 12 | 119 => 65 | 0 => 0 | 46 => 69 | 139 => 68 | 138 => 67 | 53 => 98 | n => n, fun | 3 => 0 | 4 => 1 | n => n⟩
theorem Tryd.laysValid : Go.Proofs.Lays.n196 Tryd.prog Tryd.laysValid_ren := {
  mixed := by kernel_rfl
  f196 := Tryd.func44.trans (congrArg some (by kernel_rfl))
  f259 := Tryd.func68.trans (congrArg some (by kernel_rfl))
  t0 := Tryd.underlying0
  a0 := Tryd.isAgg0
  z0 := Tryd.sizeOf0
  v0 := Tryd.zeroValue0
  t3 := Tryd.underlying3
  a3 := Tryd.isAgg3
  z3 := Tryd.sizeOf3
  v3 := Tryd.zeroValue3
  t4 := Tryd.underlying4
  a4 := Tryd.isAgg4
  z4 := Tryd.sizeOf4
  v4 := Tryd.zeroValue4
  t5 := Tryd.underlying5
  a5 := Tryd.isAgg5
  z5 := Tryd.sizeOf5
  v5 := Tryd.zeroValue5
  t9 := Tryd.underlying9
  a9 := Tryd.isAgg9
  z9 := Tryd.sizeOf9
  v9 := Tryd.zeroValue9
  t12 := Tryd.underlying12
  a12 := Tryd.isAgg12
  z12 := Tryd.sizeOf12
  v12 := Tryd.zeroValue12
  t46 := Tryd.underlying69
  a46 := Tryd.isAgg69
  z46 := Tryd.sizeOf69
  v46 := Tryd.zeroValue69
  t53 := Tryd.underlying98
  a53 := Tryd.isAgg98
  z53 := Tryd.sizeOf98
  v53 := Tryd.zeroValue98
  t119 := Tryd.underlying65
  a119 := Tryd.isAgg65
  z119 := Tryd.sizeOf65
  t138 := Tryd.underlying67
  a138 := Tryd.isAgg67
  z138 := Tryd.sizeOf67
  v138 := Tryd.zeroValue67
  t139 := Tryd.underlying68
  a139 := Tryd.isAgg68
  z139 := Tryd.sizeOf68
  v139 := Tryd.zeroValue68
  g3 := by kernel_rfl
  g4 := by kernel_rfl }
def Tryd.laysDecodeRune_ren : Go.Shelf.Ren := ⟨fun | 32 => 70 | 49 => 86 | n => n, fun | 30 => 22 | 21 => 21 | 3 => 3 | 0 => 0 | 5 => 5 | 4 => 4 | 33 => 71 | 66 => 65 | 25 => 69 | 69 => 68 | 68 => 67 | n => n, fun | 2 => 0 | 3 => 1 | n => n⟩
theorem Tryd.laysDecodeRune : Go.Proofs.Lays7.n32 Tryd.prog Tryd.laysDecodeRune_ren := {
  mixed := by kernel_rfl
  f32 := Tryd.func70.trans (congrArg some (by kernel_rfl))
  f49 := Tryd.func86.trans (congrArg some (by kernel_rfl))
  t0 := Tryd.underlying0
  a0 := Tryd.isAgg0
  z0 := Tryd.sizeOf0
  v0 := Tryd.zeroValue0
  i0 := by kernel_rfl
  t3 := Tryd.underlying3
  a3 := Tryd.isAgg3
  z3 := Tryd.sizeOf3
  v3 := Tryd.zeroValue3
  i3 := by kernel_rfl
  t4 := Tryd.underlying4
  a4 := Tryd.isAgg4
  z4 := Tryd.sizeOf4
  v4 := Tryd.zeroValue4
  i4 := by kernel_rfl
  t5 := Tryd.underlying5
  a5 := Tryd.isAgg5
  z5 := Tryd.sizeOf5
  v5 := Tryd.zeroValue5
  i5 := by kernel_rfl
  t21 := Tryd.underlying21
  a21 := Tryd.isAgg21
  z21 := Tryd.sizeOf21
  v21 := Tryd.zeroValue21
  i21 := by kernel_rfl
  t25 := Tryd.underlying69
  a25 := Tryd.isAgg69
  z25 := Tryd.sizeOf69
  v25 := Tryd.zeroValue69
  i25 := by kernel_rfl
  t30 := Tryd.underlying22
  a30 := Tryd.isAgg22
  z30 := Tryd.sizeOf22
  v30 := Tryd.zeroValue22
  i30 := by kernel_rfl
  t33 := Tryd.underlying71
  a33 := Tryd.isAgg71
  z33 := Tryd.sizeOf71
  v33 := Tryd.zeroValue71
  i33 := by kernel_rfl
  t66 := Tryd.underlying65
  a66 := Tryd.isAgg65
  z66 := Tryd.sizeOf65
  t68 := Tryd.underlying67
  a68 := Tryd.isAgg67
  z68 := Tryd.sizeOf67
  v68 := Tryd.zeroValue67
  i68 := by kernel_rfl
  t69 := Tryd.underlying68
  a69 := Tryd.isAgg68
  z69 := Tryd.sizeOf68
  v69 := Tryd.zeroValue68
  i69 := by kernel_rfl
  g2 := by kernel_rfl
  g3 := by kernel_rfl }
def Tryd.laysBytesMap_ren : Go.Shelf.Ren := ⟨fun | 45 => 64 | 32 => 70 | 57 => 66 | 49 => 86 | 63 => 80 | n => n, fun | 35 => 41 | 30 => 22 | 3 => 3 | 4 => 4 | 33 => 71 | 21 => 21 | 0 => 0 | 5 => 5 | 27 => 85 | 66 => 65 | 25 => 69 | 69 => 68 | 68 => 67 | n => n, fun | 2 => 0 | 3 => 1 | n => n⟩
theorem Tryd.laysBytesMap : Go.Proofs.Lays7.n45 Tryd.prog Tryd.laysBytesMap_ren := {
  mixed := by kernel_rfl
  f32 := Tryd.func70.trans (congrArg some (by kernel_rfl))
  f45 := Tryd.func64.trans (congrArg some (by kernel_rfl))
  f49 := Tryd.func86.trans (congrArg some (by kernel_rfl))
  f57 := Tryd.func66.trans (congrArg some (by kernel_rfl))
  f63 := Tryd.func80.trans (congrArg some (by kernel_rfl))
  t0 := Tryd.underlying0
  a0 := Tryd.isAgg0
  z0 := Tryd.sizeOf0
  v0 := Tryd.zeroValue0
  i0 := by kernel_rfl
  t3 := Tryd.underlying3
  a3 := Tryd.isAgg3
  z3 := Tryd.sizeOf3
  v3 := Tryd.zeroValue3
  i3 := by kernel_rfl
  t4 := Tryd.underlying4
  a4 := Tryd.isAgg4
  z4 := Tryd.sizeOf4
  v4 := Tryd.zeroValue4
  i4 := by kernel_rfl
  t5 := Tryd.underlying5
  a5 := Tryd.isAgg5
  z5 := Tryd.sizeOf5
  v5 := Tryd.zeroValue5
  i5 := by kernel_rfl
  t21 := Tryd.underlying21
  a21 := Tryd.isAgg21
  z21 := Tryd.sizeOf21
  v21 := Tryd.zeroValue21
  i21 := by kernel_rfl
  t25 := Tryd.underlying69
  a25 := Tryd.isAgg69
  z25 := Tryd.sizeOf69
  v25 := Tryd.zeroValue69
  i25 := by kernel_rfl
  t27 := Tryd.underlying85
  a27 := Tryd.isAgg85
  z27 := Tryd.sizeOf85
  v27 := Tryd.zeroValue85
  i27 := by kernel_rfl
  t30 := Tryd.underlying22
  a30 := Tryd.isAgg22
  z30 := Tryd.sizeOf22
  v30 := Tryd.zeroValue22
  i30 := by kernel_rfl
  t33 := Tryd.underlying71
  a33 := Tryd.isAgg71
  z33 := Tryd.sizeOf71
  v33 := Tryd.zeroValue71
  i33 := by kernel_rfl
  t35 := Tryd.underlying41
  a35 := Tryd.isAgg41
  z35 := Tryd.sizeOf41
  v35 := Tryd.zeroValue41
  i35 := by kernel_rfl
  t66 := Tryd.underlying65
  a66 := Tryd.isAgg65
  z66 := Tryd.sizeOf65
  t68 := Tryd.underlying67
  a68 := Tryd.isAgg67
  z68 := Tryd.sizeOf67
  v68 := Tryd.zeroValue67
  i68 := by kernel_rfl
  t69 := Tryd.underlying68
  a69 := Tryd.isAgg68
  z69 := Tryd.sizeOf68
  v69 := Tryd.zeroValue68
  i69 := by kernel_rfl
  g2 := by kernel_rfl
  g3 := by kernel_rfl }
def Tryd.laysToTitle_ren : Go.Shelf.Ren := ⟨fun | 34 => 59 | 51 => 78 | 58 => 92 | 64 => 81 | 65 => 82 | n => n, fun | 21 => 21 | 4 => 4 | 3 => 3 | 72 => 96 | 70 => 113 | 76 => 94 | 25 => 69 | 0 => 0 | 82 => 118 | 27 => 85 | 80 => 116 | n => n, fun | 4 => 6 | n => n⟩
theorem Tryd.laysToTitle : Go.Proofs.Lays7.n34 Tryd.prog Tryd.laysToTitle_ren := {
  mixed := by kernel_rfl
  f34 := Tryd.func59.trans (congrArg some (by kernel_rfl))
  f51 := Tryd.func78.trans (congrArg some (by kernel_rfl))
  f58 := Tryd.func92.trans (congrArg some (by kernel_rfl))
  f64 := Tryd.func81.trans (congrArg some (by kernel_rfl))
  f65 := Tryd.func82.trans (congrArg some (by kernel_rfl))
  t0 := Tryd.underlying0
  a0 := Tryd.isAgg0
  z0 := Tryd.sizeOf0
  v0 := Tryd.zeroValue0
  i0 := by kernel_rfl
  t3 := Tryd.underlying3
  a3 := Tryd.isAgg3
  z3 := Tryd.sizeOf3
  v3 := Tryd.zeroValue3
  i3 := by kernel_rfl
  t4 := Tryd.underlying4
  a4 := Tryd.isAgg4
  z4 := Tryd.sizeOf4
  v4 := Tryd.zeroValue4
  i4 := by kernel_rfl
  t21 := Tryd.underlying21
  a21 := Tryd.isAgg21
  z21 := Tryd.sizeOf21
  v21 := Tryd.zeroValue21
  i21 := by kernel_rfl
  t25 := Tryd.underlying69
  a25 := Tryd.isAgg69
  z25 := Tryd.sizeOf69
  v25 := Tryd.zeroValue69
  i25 := by kernel_rfl
  t27 := Tryd.underlying85
  a27 := Tryd.isAgg85
  z27 := Tryd.sizeOf85
  v27 := Tryd.zeroValue85
  i27 := by kernel_rfl
  t70 := Tryd.underlying113
  a70 := Tryd.isAgg113
  z70 := Tryd.sizeOf113
  v70 := Tryd.zeroValue113
  i70 := by kernel_rfl
  t72 := Tryd.underlying96
  a72 := Tryd.isAgg96
  z72 := Tryd.sizeOf96
  v72 := Tryd.zeroValue96
  i72 := by kernel_rfl
  t76 := Tryd.underlying94
  a76 := Tryd.isAgg94
  z76 := Tryd.sizeOf94
  v76 := Tryd.zeroValue94
  i76 := by kernel_rfl
  t80 := Tryd.underlying116
  a80 := Tryd.isAgg116
  z80 := Tryd.sizeOf116
  v80 := Tryd.zeroValue116
  i80 := by kernel_rfl
  t82 := Tryd.underlying118
  a82 := Tryd.isAgg118
  z82 := Tryd.sizeOf118
  v82 := Tryd.zeroValue118
  i82 := by kernel_rfl
  g4 := by kernel_rfl }
end Go.Proofs
