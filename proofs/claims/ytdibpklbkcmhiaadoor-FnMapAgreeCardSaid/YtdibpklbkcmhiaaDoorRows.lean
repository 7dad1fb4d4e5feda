/-
  NARROWER THAN 'FOR EVERY INPUT', by the rows' own cells (each row's printed sentence says how): FnExactMapBytes: laid · FnExactMapBytesValid: laid · FnExactMap: laid · FnMapKeep: laid · FnExactMapValid: laid · FnMapJoin: laid · FnMapLen: laid · FnMapTwice: laid · FnMapAgree: laid.
  DERIVED. THE GIVEN ROWS OF THIS SEAT. 9 by the template 'for every input the law returns true; each argument reads behind the call as it read before'; 0 by the template 'total and deterministic' (their statements: YtdibpklbkcmhiaaDoorTotals.lean).
  GIVEN WITH THE SEED: the statements are not yours to turn. If you find one false, say at which input.
  Laid BY PROGRAM, IN A SANDBOX (cutbox-rows.mjs): the forced cells as the released guide's own fill.sh prints them over the translation e8b5c2c4b62f83ec… (all of the seat's roots in one cut). By AI agents, Wed Nov 11 2026. No macro, syntax, notation, axiom, sorry.
-/
import Derived.Test.YtdibpklbkcmhiaaDoorChecked
import GoSem.PinnedTables
import GoSem.Claim
import GoSem.ClaimJoined
import GoSem.ClaimMapViews
import Derived.JoinedTies
import Derived.KernelRfl
namespace Go.Proofs.YtdibpklbkcmhiaaDoor
/- THE CELL 'sum', in the pinned program and in every row, IS THE sha256 OF THE DUMP (.gsa) THAT YtdibpklbkcmhiaaDoorProg.lean LOADS. Nothing in Lean hashes anything: it is a label: what it is worth is what the hold of that sum in a sandbox is worth. -/
noncomputable def Tryd.pinned : Pinned := { name := "ytdibpklbkcmhiaadoor", sum := "e8b5c2c4b62f83ec3f675d96db05737e76b8455824059fbecb68c0f3cd524bb7", checked := Tryd.checked }
namespace Rows
def none {H : Type} : Left H := { results := [], args := [] }

/- WHAT THE LISTED PACKAGE-LEVEL VARIABLES READ AS WHEN THE CALL BEGINS. Each datum BY PROGRAM (the guide's laid-datum.mjs) off the statement by which the dump's own 'gosem.cut.vars' lays the variable. In a bare row this is a premise. The card (YtdibpklbkcmhiaaDoorCards.lean) ties it to the program's text. -/
def laid_unicode_utf8_acceptRanges {H : Type} : DataW H := .agg [.agg [.lit (.int .u8 128), .lit (.int .u8 191)], .agg [.lit (.int .u8 160), .lit (.int .u8 191)], .agg [.lit (.int .u8 128), .lit (.int .u8 159)], .agg [.lit (.int .u8 144), .lit (.int .u8 191)], .agg [.lit (.int .u8 128), .lit (.int .u8 143)], .agg [.lit (.int .u8 0), .lit (.int .u8 0)], .agg [.lit (.int .u8 0), .lit (.int .u8 0)], .agg [.lit (.int .u8 0), .lit (.int .u8 0)], .agg [.lit (.int .u8 0), .lit (.int .u8 0)], .agg [.lit (.int .u8 0), .lit (.int .u8 0)], .agg [.lit (.int .u8 0), .lit (.int .u8 0)], .agg [.lit (.int .u8 0), .lit (.int .u8 0)], .agg [.lit (.int .u8 0), .lit (.int .u8 0)], .agg [.lit (.int .u8 0), .lit (.int .u8 0)], .agg [.lit (.int .u8 0), .lit (.int .u8 0)], .agg [.lit (.int .u8 0), .lit (.int .u8 0)]]
/-- One of Go's own tables, pinned by name: the form's constant. -/
def laid_unicode_utf8_first : DataW Unit := Go.Pinned.utf8First

/-- 'laws.FnExactMapBytes': WHATEVER THE INPUT: true; the input reads as it did. -/
def fnExactMapBytesSpec : ChangeSpec := { name := "fnExactMapBytes", fn := fun _ => fun
  | [d1, d2, d3, d4] => { results := [.lit (.bool true)], args := [d1, d2, d3, d4] }
  | _ => none }
def fnExactMapBytesRow : OpenClaim := { program := "ytdibpklbkcmhiaadoor", sum := "e8b5c2c4b62f83ec3f675d96db05737e76b8455824059fbecb68c0f3cd524bb7", func := "loop.example/lib-foldedtexts/laws.FnExactMapBytes", spec := "fnExactMapBytes", unfollowed := true, recurses := true, named := ["unicode/utf8.first", "unicode/utf8.acceptRanges"], apart := false, laid := [("unicode/utf8.acceptRanges", laid_unicode_utf8_acceptRanges), ("unicode/utf8.first", laid_unicode_utf8_first)] }
def FnExactMapBytesSaid : Prop := fnExactMapBytesRow.holds Tryd.pinned (OpenSpec.ofChange fnExactMapBytesSpec)

/-- ITS FALSE NEIGHBOUR: 'it returns false'. Refute it at one input. -/
def fnExactMapBytesWrong : ChangeSpec := { name := "fnExactMapBytes", fn := fun _ => fun
  | [d1, d2, d3, d4] => { results := [.lit (.bool false)], args := [d1, d2, d3, d4] }
  | _ => none }
def FnExactMapBytesWrongFalsely : Prop := fnExactMapBytesRow.holds Tryd.pinned (OpenSpec.ofChange fnExactMapBytesWrong)

/-- 'laws.FnExactMapBytesValid': WHATEVER THE INPUT: true; the input reads as it did. -/
def fnExactMapBytesValidSpec : ChangeSpec := { name := "fnExactMapBytesValid", fn := fun _ => fun
  | [d1, d2, d3, d4] => { results := [.lit (.bool true)], args := [d1, d2, d3, d4] }
  | _ => none }
def fnExactMapBytesValidRow : OpenClaim := { program := "ytdibpklbkcmhiaadoor", sum := "e8b5c2c4b62f83ec3f675d96db05737e76b8455824059fbecb68c0f3cd524bb7", func := "loop.example/lib-foldedtexts/laws.FnExactMapBytesValid", spec := "fnExactMapBytesValid", unfollowed := true, recurses := true, named := ["unicode/utf8.first", "unicode/utf8.acceptRanges"], apart := false, laid := [("unicode/utf8.acceptRanges", laid_unicode_utf8_acceptRanges), ("unicode/utf8.first", laid_unicode_utf8_first)] }
def FnExactMapBytesValidSaid : Prop := fnExactMapBytesValidRow.holds Tryd.pinned (OpenSpec.ofChange fnExactMapBytesValidSpec)

/-- ITS FALSE NEIGHBOUR: 'it returns false'. Refute it at one input. -/
def fnExactMapBytesValidWrong : ChangeSpec := { name := "fnExactMapBytesValid", fn := fun _ => fun
  | [d1, d2, d3, d4] => { results := [.lit (.bool false)], args := [d1, d2, d3, d4] }
  | _ => none }
def FnExactMapBytesValidWrongFalsely : Prop := fnExactMapBytesValidRow.holds Tryd.pinned (OpenSpec.ofChange fnExactMapBytesValidWrong)

/-- 'laws.FnExactMap': WHATEVER THE INPUT: true; the input reads as it did. -/
def fnExactMapSpec : ChangeSpec := { name := "fnExactMap", fn := fun _ => fun
  | [d1, d2, d3, d4] => { results := [.lit (.bool true)], args := [d1, d2, d3, d4] }
  | _ => none }
def fnExactMapRow : OpenClaim := { program := "ytdibpklbkcmhiaadoor", sum := "e8b5c2c4b62f83ec3f675d96db05737e76b8455824059fbecb68c0f3cd524bb7", func := "loop.example/lib-foldedtexts/laws.FnExactMap", spec := "fnExactMap", inPlace := ["internal/abi.NoEscape", "internal/bytealg.MakeNoZero"], unfollowed := true, recurses := true, named := ["unicode/utf8.first", "unicode/utf8.acceptRanges"], apart := false, laid := [("unicode/utf8.acceptRanges", laid_unicode_utf8_acceptRanges), ("unicode/utf8.first", laid_unicode_utf8_first)] }
def FnExactMapSaid : Prop := fnExactMapRow.holds Tryd.pinned (OpenSpec.ofChange fnExactMapSpec)

/-- ITS FALSE NEIGHBOUR: 'it returns false'. Refute it at one input. -/
def fnExactMapWrong : ChangeSpec := { name := "fnExactMap", fn := fun _ => fun
  | [d1, d2, d3, d4] => { results := [.lit (.bool false)], args := [d1, d2, d3, d4] }
  | _ => none }
def FnExactMapWrongFalsely : Prop := fnExactMapRow.holds Tryd.pinned (OpenSpec.ofChange fnExactMapWrong)

/-- 'laws.FnMapKeep': WHATEVER THE INPUT: true; the input reads as it did. -/
def fnMapKeepSpec : ChangeSpec := { name := "fnMapKeep", fn := fun _ => fun
  | [d] => { results := [.lit (.bool true)], args := [d] }
  | _ => none }
def fnMapKeepRow : OpenClaim := { program := "ytdibpklbkcmhiaadoor", sum := "e8b5c2c4b62f83ec3f675d96db05737e76b8455824059fbecb68c0f3cd524bb7", func := "loop.example/lib-foldedtexts/laws.FnMapKeep", spec := "fnMapKeep", inPlace := ["internal/abi.NoEscape", "internal/bytealg.MakeNoZero"], unfollowed := true, recurses := true, named := ["unicode/utf8.first", "unicode/utf8.acceptRanges"], apart := false, laid := [("unicode/utf8.acceptRanges", laid_unicode_utf8_acceptRanges), ("unicode/utf8.first", laid_unicode_utf8_first)] }
def FnMapKeepSaid : Prop := fnMapKeepRow.holds Tryd.pinned (OpenSpec.ofChange fnMapKeepSpec)

/-- ITS FALSE NEIGHBOUR: 'it returns false'. Refute it at one input. -/
def fnMapKeepWrong : ChangeSpec := { name := "fnMapKeep", fn := fun _ => fun
  | [d] => { results := [.lit (.bool false)], args := [d] }
  | _ => none }
def FnMapKeepWrongFalsely : Prop := fnMapKeepRow.holds Tryd.pinned (OpenSpec.ofChange fnMapKeepWrong)

/-- 'laws.FnExactMapValid': WHATEVER THE INPUT: true; the input reads as it did. -/
def fnExactMapValidSpec : ChangeSpec := { name := "fnExactMapValid", fn := fun _ => fun
  | [d1, d2, d3, d4] => { results := [.lit (.bool true)], args := [d1, d2, d3, d4] }
  | _ => none }
def fnExactMapValidRow : OpenClaim := { program := "ytdibpklbkcmhiaadoor", sum := "e8b5c2c4b62f83ec3f675d96db05737e76b8455824059fbecb68c0f3cd524bb7", func := "loop.example/lib-foldedtexts/laws.FnExactMapValid", spec := "fnExactMapValid", inPlace := ["internal/abi.NoEscape", "internal/bytealg.MakeNoZero"], unfollowed := true, recurses := true, named := ["unicode/utf8.first", "unicode/utf8.acceptRanges"], apart := false, laid := [("unicode/utf8.acceptRanges", laid_unicode_utf8_acceptRanges), ("unicode/utf8.first", laid_unicode_utf8_first)] }
def FnExactMapValidSaid : Prop := fnExactMapValidRow.holds Tryd.pinned (OpenSpec.ofChange fnExactMapValidSpec)

/-- ITS FALSE NEIGHBOUR: 'it returns false'. Refute it at one input. -/
def fnExactMapValidWrong : ChangeSpec := { name := "fnExactMapValid", fn := fun _ => fun
  | [d1, d2, d3, d4] => { results := [.lit (.bool false)], args := [d1, d2, d3, d4] }
  | _ => none }
def FnExactMapValidWrongFalsely : Prop := fnExactMapValidRow.holds Tryd.pinned (OpenSpec.ofChange fnExactMapValidWrong)

/-- 'laws.FnMapJoin': WHATEVER THE INPUT: true; the input reads as it did. -/
def fnMapJoinSpec : ChangeSpec := { name := "fnMapJoin", fn := fun _ => fun
  | [d1, d2] => { results := [.lit (.bool true)], args := [d1, d2] }
  | _ => none }
def fnMapJoinRow : OpenClaim := { program := "ytdibpklbkcmhiaadoor", sum := "e8b5c2c4b62f83ec3f675d96db05737e76b8455824059fbecb68c0f3cd524bb7", func := "loop.example/lib-foldedtexts/laws.FnMapJoin", spec := "fnMapJoin", inPlace := ["internal/abi.NoEscape", "internal/bytealg.MakeNoZero"], unfollowed := true, recurses := true, named := ["unicode/utf8.first", "unicode/utf8.acceptRanges"], apart := false, laid := [("unicode/utf8.acceptRanges", laid_unicode_utf8_acceptRanges), ("unicode/utf8.first", laid_unicode_utf8_first)] }
def FnMapJoinSaid : Prop := fnMapJoinRow.holds Tryd.pinned (OpenSpec.ofChange fnMapJoinSpec)

/-- ITS FALSE NEIGHBOUR: 'it returns false'. Refute it at one input. -/
def fnMapJoinWrong : ChangeSpec := { name := "fnMapJoin", fn := fun _ => fun
  | [d1, d2] => { results := [.lit (.bool false)], args := [d1, d2] }
  | _ => none }
def FnMapJoinWrongFalsely : Prop := fnMapJoinRow.holds Tryd.pinned (OpenSpec.ofChange fnMapJoinWrong)

/-- 'laws.FnMapLen': WHATEVER THE INPUT: true; the input reads as it did. -/
def fnMapLenSpec : ChangeSpec := { name := "fnMapLen", fn := fun _ => fun
  | [d] => { results := [.lit (.bool true)], args := [d] }
  | _ => none }
def fnMapLenRow : OpenClaim := { program := "ytdibpklbkcmhiaadoor", sum := "e8b5c2c4b62f83ec3f675d96db05737e76b8455824059fbecb68c0f3cd524bb7", func := "loop.example/lib-foldedtexts/laws.FnMapLen", spec := "fnMapLen", inPlace := ["internal/abi.NoEscape", "internal/bytealg.MakeNoZero"], unfollowed := true, recurses := true, named := ["unicode/utf8.first", "unicode/utf8.acceptRanges"], apart := false, laid := [("unicode/utf8.acceptRanges", laid_unicode_utf8_acceptRanges), ("unicode/utf8.first", laid_unicode_utf8_first)] }
def FnMapLenSaid : Prop := fnMapLenRow.holds Tryd.pinned (OpenSpec.ofChange fnMapLenSpec)

/-- ITS FALSE NEIGHBOUR: 'it returns false'. Refute it at one input. -/
def fnMapLenWrong : ChangeSpec := { name := "fnMapLen", fn := fun _ => fun
  | [d] => { results := [.lit (.bool false)], args := [d] }
  | _ => none }
def FnMapLenWrongFalsely : Prop := fnMapLenRow.holds Tryd.pinned (OpenSpec.ofChange fnMapLenWrong)

/-- 'laws.FnMapTwice': WHATEVER THE INPUT: true; the input reads as it did. -/
def fnMapTwiceSpec : ChangeSpec := { name := "fnMapTwice", fn := fun _ => fun
  | [d1, d2] => { results := [.lit (.bool true)], args := [d1, d2] }
  | _ => none }
def fnMapTwiceRow : OpenClaim := { program := "ytdibpklbkcmhiaadoor", sum := "e8b5c2c4b62f83ec3f675d96db05737e76b8455824059fbecb68c0f3cd524bb7", func := "loop.example/lib-foldedtexts/laws.FnMapTwice", spec := "fnMapTwice", inPlace := ["internal/abi.NoEscape", "internal/bytealg.MakeNoZero"], unfollowed := true, recurses := true, named := ["unicode/utf8.first", "unicode/utf8.acceptRanges"], apart := false, laid := [("unicode/utf8.acceptRanges", laid_unicode_utf8_acceptRanges), ("unicode/utf8.first", laid_unicode_utf8_first)] }
def FnMapTwiceSaid : Prop := fnMapTwiceRow.holds Tryd.pinned (OpenSpec.ofChange fnMapTwiceSpec)

/-- ITS FALSE NEIGHBOUR: 'it returns false'. Refute it at one input. -/
def fnMapTwiceWrong : ChangeSpec := { name := "fnMapTwice", fn := fun _ => fun
  | [d1, d2] => { results := [.lit (.bool false)], args := [d1, d2] }
  | _ => none }
def FnMapTwiceWrongFalsely : Prop := fnMapTwiceRow.holds Tryd.pinned (OpenSpec.ofChange fnMapTwiceWrong)

/-- 'laws.FnMapAgree': WHATEVER THE INPUT: true; the input reads as it did. -/
def fnMapAgreeSpec : ChangeSpec := { name := "fnMapAgree", fn := fun _ => fun
  | [d] => { results := [.lit (.bool true)], args := [d] }
  | _ => none }
def fnMapAgreeRow : OpenClaim := { program := "ytdibpklbkcmhiaadoor", sum := "e8b5c2c4b62f83ec3f675d96db05737e76b8455824059fbecb68c0f3cd524bb7", func := "loop.example/lib-foldedtexts/laws.FnMapAgree", spec := "fnMapAgree", inPlace := ["internal/abi.NoEscape", "internal/bytealg.MakeNoZero"], unfollowed := true, recurses := true, named := ["unicode/utf8.first", "unicode/utf8.acceptRanges"], apart := false, laid := [("unicode/utf8.acceptRanges", laid_unicode_utf8_acceptRanges), ("unicode/utf8.first", laid_unicode_utf8_first)] }
def FnMapAgreeSaid : Prop := fnMapAgreeRow.holds Tryd.pinned (OpenSpec.ofChange fnMapAgreeSpec)

/-- ITS FALSE NEIGHBOUR: 'it returns false'. Refute it at one input. -/
def fnMapAgreeWrong : ChangeSpec := { name := "fnMapAgree", fn := fun _ => fun
  | [d] => { results := [.lit (.bool false)], args := [d] }
  | _ => none }
def FnMapAgreeWrongFalsely : Prop := fnMapAgreeRow.holds Tryd.pinned (OpenSpec.ofChange fnMapAgreeWrong)

/- THE SECOND FORM. 'bulk': how many values and letters a reading holds, each counted each time it is reached (what is shared counts as often as it is met; a slice's spare places count too). A statement '..UptoSaid' is the law's where the arguments, and the package variables that the reading takes, are together of bulk at most 1048576: NARROWER than '..Said'. Prove '..Said' where nothing that the law and all that it calls make is longer than what came in: it says more and counts as full. Else prove '..UptoSaid'. A law counts once. -/
mutual
def uptoBulk {H : Type} : DataW H → Nat
  | .lit (.string bytes) => bytes.length + 1
  | .lit _ => 1
  | .nil => 1
  | .ptr d => uptoBulk d + 1
  | .slice elems spare => uptoBulkAll elems + uptoBulkAll spare + 1
  | .agg parts => uptoBulkAll parts + 1
  | .iface _ d => uptoBulk d + 1
  | .map entries => uptoBulkEntries entries + 1
  | .held _ => 1
def uptoBulkAll {H : Type} : List (DataW H) → Nat
  | [] => 0
  | d :: r => uptoBulk d + uptoBulkAll r
def uptoBulkEntries {H : Type} : List (Lit × DataW H) → Nat
  | [] => 0
  | x :: r => uptoBulkEntry x + uptoBulkEntries r
def uptoBulkEntry {H : Type} : Lit × DataW H → Nat
  | (.string bytes, d) => bytes.length + uptoBulk d + 1
  | (_, d) => uptoBulk d + 1
 end
def uptoSmall : (H : Type) → List (DataW H) → Bool := fun _ ds => decide (uptoBulkAll ds ≤ 1048576)
def OpenSpec.upto (s : _root_.Go.ChangeSpec) : _root_.Go.OpenSpec := { _root_.Go.OpenSpec.ofChange s with cond := some uptoSmall }

/-- 'laws.FnExactMapBytes', WHERE WHAT IT READS IS OF BULK AT MOST 1048576: true; the input reads as it did. -/
def fnExactMapBytesUptoRow : OpenClaim := { program := "ytdibpklbkcmhiaadoor", sum := "e8b5c2c4b62f83ec3f675d96db05737e76b8455824059fbecb68c0f3cd524bb7", func := "loop.example/lib-foldedtexts/laws.FnExactMapBytes", spec := "fnExactMapBytes", unfollowed := true, recurses := true, named := ["unicode/utf8.first", "unicode/utf8.acceptRanges"], apart := false, laid := [("unicode/utf8.acceptRanges", laid_unicode_utf8_acceptRanges), ("unicode/utf8.first", laid_unicode_utf8_first)], narrowed := true }
def FnExactMapBytesUptoSaid : Prop := fnExactMapBytesUptoRow.holds Tryd.pinned (OpenSpec.upto fnExactMapBytesSpec)

/-- 'laws.FnExactMapBytesValid', WHERE WHAT IT READS IS OF BULK AT MOST 1048576: true; the input reads as it did. -/
def fnExactMapBytesValidUptoRow : OpenClaim := { program := "ytdibpklbkcmhiaadoor", sum := "e8b5c2c4b62f83ec3f675d96db05737e76b8455824059fbecb68c0f3cd524bb7", func := "loop.example/lib-foldedtexts/laws.FnExactMapBytesValid", spec := "fnExactMapBytesValid", unfollowed := true, recurses := true, named := ["unicode/utf8.first", "unicode/utf8.acceptRanges"], apart := false, laid := [("unicode/utf8.acceptRanges", laid_unicode_utf8_acceptRanges), ("unicode/utf8.first", laid_unicode_utf8_first)], narrowed := true }
def FnExactMapBytesValidUptoSaid : Prop := fnExactMapBytesValidUptoRow.holds Tryd.pinned (OpenSpec.upto fnExactMapBytesValidSpec)

/-- 'laws.FnExactMap', WHERE WHAT IT READS IS OF BULK AT MOST 1048576: true; the input reads as it did. -/
def fnExactMapUptoRow : OpenClaim := { program := "ytdibpklbkcmhiaadoor", sum := "e8b5c2c4b62f83ec3f675d96db05737e76b8455824059fbecb68c0f3cd524bb7", func := "loop.example/lib-foldedtexts/laws.FnExactMap", spec := "fnExactMap", inPlace := ["internal/abi.NoEscape", "internal/bytealg.MakeNoZero"], unfollowed := true, recurses := true, named := ["unicode/utf8.first", "unicode/utf8.acceptRanges"], apart := false, laid := [("unicode/utf8.acceptRanges", laid_unicode_utf8_acceptRanges), ("unicode/utf8.first", laid_unicode_utf8_first)], narrowed := true }
def FnExactMapUptoSaid : Prop := fnExactMapUptoRow.holds Tryd.pinned (OpenSpec.upto fnExactMapSpec)

/-- 'laws.FnMapKeep', WHERE WHAT IT READS IS OF BULK AT MOST 1048576: true; the input reads as it did. -/
def fnMapKeepUptoRow : OpenClaim := { program := "ytdibpklbkcmhiaadoor", sum := "e8b5c2c4b62f83ec3f675d96db05737e76b8455824059fbecb68c0f3cd524bb7", func := "loop.example/lib-foldedtexts/laws.FnMapKeep", spec := "fnMapKeep", inPlace := ["internal/abi.NoEscape", "internal/bytealg.MakeNoZero"], unfollowed := true, recurses := true, named := ["unicode/utf8.first", "unicode/utf8.acceptRanges"], apart := false, laid := [("unicode/utf8.acceptRanges", laid_unicode_utf8_acceptRanges), ("unicode/utf8.first", laid_unicode_utf8_first)], narrowed := true }
def FnMapKeepUptoSaid : Prop := fnMapKeepUptoRow.holds Tryd.pinned (OpenSpec.upto fnMapKeepSpec)

/-- 'laws.FnExactMapValid', WHERE WHAT IT READS IS OF BULK AT MOST 1048576: true; the input reads as it did. -/
def fnExactMapValidUptoRow : OpenClaim := { program := "ytdibpklbkcmhiaadoor", sum := "e8b5c2c4b62f83ec3f675d96db05737e76b8455824059fbecb68c0f3cd524bb7", func := "loop.example/lib-foldedtexts/laws.FnExactMapValid", spec := "fnExactMapValid", inPlace := ["internal/abi.NoEscape", "internal/bytealg.MakeNoZero"], unfollowed := true, recurses := true, named := ["unicode/utf8.first", "unicode/utf8.acceptRanges"], apart := false, laid := [("unicode/utf8.acceptRanges", laid_unicode_utf8_acceptRanges), ("unicode/utf8.first", laid_unicode_utf8_first)], narrowed := true }
def FnExactMapValidUptoSaid : Prop := fnExactMapValidUptoRow.holds Tryd.pinned (OpenSpec.upto fnExactMapValidSpec)

/-- 'laws.FnMapJoin', WHERE WHAT IT READS IS OF BULK AT MOST 1048576: true; the input reads as it did. -/
def fnMapJoinUptoRow : OpenClaim := { program := "ytdibpklbkcmhiaadoor", sum := "e8b5c2c4b62f83ec3f675d96db05737e76b8455824059fbecb68c0f3cd524bb7", func := "loop.example/lib-foldedtexts/laws.FnMapJoin", spec := "fnMapJoin", inPlace := ["internal/abi.NoEscape", "internal/bytealg.MakeNoZero"], unfollowed := true, recurses := true, named := ["unicode/utf8.first", "unicode/utf8.acceptRanges"], apart := false, laid := [("unicode/utf8.acceptRanges", laid_unicode_utf8_acceptRanges), ("unicode/utf8.first", laid_unicode_utf8_first)], narrowed := true }
def FnMapJoinUptoSaid : Prop := fnMapJoinUptoRow.holds Tryd.pinned (OpenSpec.upto fnMapJoinSpec)

/-- 'laws.FnMapLen', WHERE WHAT IT READS IS OF BULK AT MOST 1048576: true; the input reads as it did. -/
def fnMapLenUptoRow : OpenClaim := { program := "ytdibpklbkcmhiaadoor", sum := "e8b5c2c4b62f83ec3f675d96db05737e76b8455824059fbecb68c0f3cd524bb7", func := "loop.example/lib-foldedtexts/laws.FnMapLen", spec := "fnMapLen", inPlace := ["internal/abi.NoEscape", "internal/bytealg.MakeNoZero"], unfollowed := true, recurses := true, named := ["unicode/utf8.first", "unicode/utf8.acceptRanges"], apart := false, laid := [("unicode/utf8.acceptRanges", laid_unicode_utf8_acceptRanges), ("unicode/utf8.first", laid_unicode_utf8_first)], narrowed := true }
def FnMapLenUptoSaid : Prop := fnMapLenUptoRow.holds Tryd.pinned (OpenSpec.upto fnMapLenSpec)

/-- 'laws.FnMapTwice', WHERE WHAT IT READS IS OF BULK AT MOST 1048576: true; the input reads as it did. -/
def fnMapTwiceUptoRow : OpenClaim := { program := "ytdibpklbkcmhiaadoor", sum := "e8b5c2c4b62f83ec3f675d96db05737e76b8455824059fbecb68c0f3cd524bb7", func := "loop.example/lib-foldedtexts/laws.FnMapTwice", spec := "fnMapTwice", inPlace := ["internal/abi.NoEscape", "internal/bytealg.MakeNoZero"], unfollowed := true, recurses := true, named := ["unicode/utf8.first", "unicode/utf8.acceptRanges"], apart := false, laid := [("unicode/utf8.acceptRanges", laid_unicode_utf8_acceptRanges), ("unicode/utf8.first", laid_unicode_utf8_first)], narrowed := true }
def FnMapTwiceUptoSaid : Prop := fnMapTwiceUptoRow.holds Tryd.pinned (OpenSpec.upto fnMapTwiceSpec)

/-- 'laws.FnMapAgree', WHERE WHAT IT READS IS OF BULK AT MOST 1048576: true; the input reads as it did. -/
def fnMapAgreeUptoRow : OpenClaim := { program := "ytdibpklbkcmhiaadoor", sum := "e8b5c2c4b62f83ec3f675d96db05737e76b8455824059fbecb68c0f3cd524bb7", func := "loop.example/lib-foldedtexts/laws.FnMapAgree", spec := "fnMapAgree", inPlace := ["internal/abi.NoEscape", "internal/bytealg.MakeNoZero"], unfollowed := true, recurses := true, named := ["unicode/utf8.first", "unicode/utf8.acceptRanges"], apart := false, laid := [("unicode/utf8.acceptRanges", laid_unicode_utf8_acceptRanges), ("unicode/utf8.first", laid_unicode_utf8_first)], narrowed := true }
def FnMapAgreeUptoSaid : Prop := fnMapAgreeUptoRow.holds Tryd.pinned (OpenSpec.upto fnMapAgreeSpec)

end Rows
end Go.Proofs.YtdibpklbkcmhiaaDoor
