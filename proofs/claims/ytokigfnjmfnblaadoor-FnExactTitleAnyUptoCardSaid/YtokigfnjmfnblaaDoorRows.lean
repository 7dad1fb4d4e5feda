/-
  NARROWER THAN 'FOR EVERY INPUT', by the rows' own cells (each row's printed sentence says how): FnRuneCases: laid · FnTitleTwice: laid · FnExactTitleAny: laid · FnExactLower: laid · FnExactLowerAny: laid · FnExactUpper: laid · FnExactUpperAny: laid · FnCaseTwice: laid · FnUpperAscii: laid · FnLowerMap: laid · FnUpperMap: laid · FnCaseMapAny: laid.
  DERIVED. THE GIVEN ROWS OF THIS SEAT. 12 by the template 'for every input the law returns true; each argument reads behind the call as it read before'; 0 by the template 'total and deterministic' (their statements: YtokigfnjmfnblaaDoorTotals.lean).
  GIVEN WITH THE SEED: the statements are not yours to turn. If you find one false, say at which input.
  Laid BY PROGRAM, IN A SANDBOX (cutbox-rows.mjs): the forced cells as the released guide's own fill.sh prints them over the translation 66c90a8605ca03bb… (all of the seat's roots in one cut). By AI agents, Wed Nov 11 2026. No macro, syntax, notation, axiom, sorry.
-/
import Derived.Test.YtokigfnjmfnblaaDoorChecked
import GoSem.PinnedTables
import GoSem.Claim
import GoSem.ClaimJoined
import GoSem.ClaimMapViews
import Derived.JoinedTies
import Derived.KernelRfl
namespace Go.Proofs.YtokigfnjmfnblaaDoor
/- THE CELL 'sum', in the pinned program and in every row, IS THE sha256 OF THE DUMP (.gsa) THAT YtokigfnjmfnblaaDoorProg.lean LOADS. Nothing in Lean hashes anything: it is a label: what it is worth is what the hold of that sum in a sandbox is worth. -/
noncomputable def Tryd.pinned : Pinned := { name := "ytokigfnjmfnblaadoor", sum := "66c90a8605ca03bbca27e79c5208dd846ef881e4cd58555b4e75ed255095e33d", checked := Tryd.checked }
namespace Rows
def none {H : Type} : Left H := { results := [], args := [] }

/- WHAT THE LISTED PACKAGE-LEVEL VARIABLES READ AS WHEN THE CALL BEGINS. Each datum BY PROGRAM (the guide's laid-datum.mjs) off the statement by which the dump's own 'gosem.cut.vars' lays the variable. In a bare row this is a premise. The card (YtokigfnjmfnblaaDoorCards.lean) ties it to the program's text. -/
def laid_unicode_properties {H : Type} : DataW H := .agg [.lit (.int .u8 1), .lit (.int .u8 1), .lit (.int .u8 1), .lit (.int .u8 1), .lit (.int .u8 1), .lit (.int .u8 1), .lit (.int .u8 1), .lit (.int .u8 1), .lit (.int .u8 1), .lit (.int .u8 1), .lit (.int .u8 1), .lit (.int .u8 1), .lit (.int .u8 1), .lit (.int .u8 1), .lit (.int .u8 1), .lit (.int .u8 1), .lit (.int .u8 1), .lit (.int .u8 1), .lit (.int .u8 1), .lit (.int .u8 1), .lit (.int .u8 1), .lit (.int .u8 1), .lit (.int .u8 1), .lit (.int .u8 1), .lit (.int .u8 1), .lit (.int .u8 1), .lit (.int .u8 1), .lit (.int .u8 1), .lit (.int .u8 1), .lit (.int .u8 1), .lit (.int .u8 1), .lit (.int .u8 1), .lit (.int .u8 144), .lit (.int .u8 130), .lit (.int .u8 130), .lit (.int .u8 130), .lit (.int .u8 136), .lit (.int .u8 130), .lit (.int .u8 130), .lit (.int .u8 130), .lit (.int .u8 130), .lit (.int .u8 130), .lit (.int .u8 130), .lit (.int .u8 136), .lit (.int .u8 130), .lit (.int .u8 130), .lit (.int .u8 130), .lit (.int .u8 130), .lit (.int .u8 132), .lit (.int .u8 132), .lit (.int .u8 132), .lit (.int .u8 132), .lit (.int .u8 132), .lit (.int .u8 132), .lit (.int .u8 132), .lit (.int .u8 132), .lit (.int .u8 132), .lit (.int .u8 132), .lit (.int .u8 130), .lit (.int .u8 130), .lit (.int .u8 136), .lit (.int .u8 136), .lit (.int .u8 136), .lit (.int .u8 130), .lit (.int .u8 130), .lit (.int .u8 160), .lit (.int .u8 160), .lit (.int .u8 160), .lit (.int .u8 160), .lit (.int .u8 160), .lit (.int .u8 160), .lit (.int .u8 160), .lit (.int .u8 160), .lit (.int .u8 160), .lit (.int .u8 160), .lit (.int .u8 160), .lit (.int .u8 160), .lit (.int .u8 160), .lit (.int .u8 160), .lit (.int .u8 160), .lit (.int .u8 160), .lit (.int .u8 160), .lit (.int .u8 160), .lit (.int .u8 160), .lit (.int .u8 160), .lit (.int .u8 160), .lit (.int .u8 160), .lit (.int .u8 160), .lit (.int .u8 160), .lit (.int .u8 160), .lit (.int .u8 160), .lit (.int .u8 130), .lit (.int .u8 130), .lit (.int .u8 130), .lit (.int .u8 136), .lit (.int .u8 130), .lit (.int .u8 136), .lit (.int .u8 192), .lit (.int .u8 192), .lit (.int .u8 192), .lit (.int .u8 192), .lit (.int .u8 192), .lit (.int .u8 192), .lit (.int .u8 192), .lit (.int .u8 192), .lit (.int .u8 192), .lit (.int .u8 192), .lit (.int .u8 192), .lit (.int .u8 192), .lit (.int .u8 192), .lit (.int .u8 192), .lit (.int .u8 192), .lit (.int .u8 192), .lit (.int .u8 192), .lit (.int .u8 192), .lit (.int .u8 192), .lit (.int .u8 192), .lit (.int .u8 192), .lit (.int .u8 192), .lit (.int .u8 192), .lit (.int .u8 192), .lit (.int .u8 192), .lit (.int .u8 192), .lit (.int .u8 130), .lit (.int .u8 136), .lit (.int .u8 130), .lit (.int .u8 136), .lit (.int .u8 1), .lit (.int .u8 1), .lit (.int .u8 1), .lit (.int .u8 1), .lit (.int .u8 1), .lit (.int .u8 1), .lit (.int .u8 1), .lit (.int .u8 1), .lit (.int .u8 1), .lit (.int .u8 1), .lit (.int .u8 1), .lit (.int .u8 1), .lit (.int .u8 1), .lit (.int .u8 1), .lit (.int .u8 1), .lit (.int .u8 1), .lit (.int .u8 1), .lit (.int .u8 1), .lit (.int .u8 1), .lit (.int .u8 1), .lit (.int .u8 1), .lit (.int .u8 1), .lit (.int .u8 1), .lit (.int .u8 1), .lit (.int .u8 1), .lit (.int .u8 1), .lit (.int .u8 1), .lit (.int .u8 1), .lit (.int .u8 1), .lit (.int .u8 1), .lit (.int .u8 1), .lit (.int .u8 1), .lit (.int .u8 1), .lit (.int .u8 16), .lit (.int .u8 130), .lit (.int .u8 136), .lit (.int .u8 136), .lit (.int .u8 136), .lit (.int .u8 136), .lit (.int .u8 136), .lit (.int .u8 130), .lit (.int .u8 136), .lit (.int .u8 136), .lit (.int .u8 224), .lit (.int .u8 130), .lit (.int .u8 136), .lit (.int .u8 0), .lit (.int .u8 136), .lit (.int .u8 136), .lit (.int .u8 136), .lit (.int .u8 136), .lit (.int .u8 132), .lit (.int .u8 132), .lit (.int .u8 136), .lit (.int .u8 192), .lit (.int .u8 130), .lit (.int .u8 130), .lit (.int .u8 136), .lit (.int .u8 132), .lit (.int .u8 224), .lit (.int .u8 130), .lit (.int .u8 132), .lit (.int .u8 132), .lit (.int .u8 132), .lit (.int .u8 130), .lit (.int .u8 160), .lit (.int .u8 160), .lit (.int .u8 160), .lit (.int .u8 160), .lit (.int .u8 160), .lit (.int .u8 160), .lit (.int .u8 160), .lit (.int .u8 160), .lit (.int .u8 160), .lit (.int .u8 160), .lit (.int .u8 160), .lit (.int .u8 160), .lit (.int .u8 160), .lit (.int .u8 160), .lit (.int .u8 160), .lit (.int .u8 160), .lit (.int .u8 160), .lit (.int .u8 160), .lit (.int .u8 160), .lit (.int .u8 160), .lit (.int .u8 160), .lit (.int .u8 160), .lit (.int .u8 160), .lit (.int .u8 136), .lit (.int .u8 160), .lit (.int .u8 160), .lit (.int .u8 160), .lit (.int .u8 160), .lit (.int .u8 160), .lit (.int .u8 160), .lit (.int .u8 160), .lit (.int .u8 192), .lit (.int .u8 192), .lit (.int .u8 192), .lit (.int .u8 192), .lit (.int .u8 192), .lit (.int .u8 192), .lit (.int .u8 192), .lit (.int .u8 192), .lit (.int .u8 192), .lit (.int .u8 192), .lit (.int .u8 192), .lit (.int .u8 192), .lit (.int .u8 192), .lit (.int .u8 192), .lit (.int .u8 192), .lit (.int .u8 192), .lit (.int .u8 192), .lit (.int .u8 192), .lit (.int .u8 192), .lit (.int .u8 192), .lit (.int .u8 192), .lit (.int .u8 192), .lit (.int .u8 192), .lit (.int .u8 192), .lit (.int .u8 136), .lit (.int .u8 192), .lit (.int .u8 192), .lit (.int .u8 192), .lit (.int .u8 192), .lit (.int .u8 192), .lit (.int .u8 192), .lit (.int .u8 192), .lit (.int .u8 192)]
/-- One of Go's own tables, pinned by name: the form's constant. -/
def laid_unicode_CaseRanges : DataW Unit := Go.Pinned.caseRanges
/-- One of Go's own tables, pinned by name: the form's constant. -/
def laid_unicode_Letter : DataW Unit := Go.Pinned.letter
def laid_unicode_utf8_acceptRanges {H : Type} : DataW H := .agg [.agg [.lit (.int .u8 128), .lit (.int .u8 191)], .agg [.lit (.int .u8 160), .lit (.int .u8 191)], .agg [.lit (.int .u8 128), .lit (.int .u8 159)], .agg [.lit (.int .u8 144), .lit (.int .u8 191)], .agg [.lit (.int .u8 128), .lit (.int .u8 143)], .agg [.lit (.int .u8 0), .lit (.int .u8 0)], .agg [.lit (.int .u8 0), .lit (.int .u8 0)], .agg [.lit (.int .u8 0), .lit (.int .u8 0)], .agg [.lit (.int .u8 0), .lit (.int .u8 0)], .agg [.lit (.int .u8 0), .lit (.int .u8 0)], .agg [.lit (.int .u8 0), .lit (.int .u8 0)], .agg [.lit (.int .u8 0), .lit (.int .u8 0)], .agg [.lit (.int .u8 0), .lit (.int .u8 0)], .agg [.lit (.int .u8 0), .lit (.int .u8 0)], .agg [.lit (.int .u8 0), .lit (.int .u8 0)], .agg [.lit (.int .u8 0), .lit (.int .u8 0)]]
/-- One of Go's own tables, pinned by name: the form's constant. -/
def laid_unicode_utf8_first : DataW Unit := Go.Pinned.utf8First

/-- 'laws.FnRuneCases': WHATEVER THE INPUT: true; the input reads as it did. -/
def fnRuneCasesSpec : ChangeSpec := { name := "fnRuneCases", fn := fun _ => fun
  | [d] => { results := [.lit (.bool true)], args := [d] }
  | _ => none }
def fnRuneCasesRow : OpenClaim := { program := "ytokigfnjmfnblaadoor", sum := "66c90a8605ca03bbca27e79c5208dd846ef881e4cd58555b4e75ed255095e33d", func := "loop.example/lib-foldedtexts/laws.FnRuneCases", spec := "fnRuneCases", named := ["unicode.CaseRanges", "unicode.properties", "unicode.Letter"], apart := false, laid := [("unicode.properties", laid_unicode_properties), ("unicode.CaseRanges", laid_unicode_CaseRanges), ("unicode.Letter", laid_unicode_Letter)] }
def FnRuneCasesSaid : Prop := fnRuneCasesRow.holds Tryd.pinned (OpenSpec.ofChange fnRuneCasesSpec)

/-- ITS FALSE NEIGHBOUR: 'it returns false'. Refute it at one input. -/
def fnRuneCasesWrong : ChangeSpec := { name := "fnRuneCases", fn := fun _ => fun
  | [d] => { results := [.lit (.bool false)], args := [d] }
  | _ => none }
def FnRuneCasesWrongFalsely : Prop := fnRuneCasesRow.holds Tryd.pinned (OpenSpec.ofChange fnRuneCasesWrong)

/-- 'laws.FnTitleTwice': WHATEVER THE INPUT: true; the input reads as it did. -/
def fnTitleTwiceSpec : ChangeSpec := { name := "fnTitleTwice", fn := fun _ => fun
  | [d] => { results := [.lit (.bool true)], args := [d] }
  | _ => none }
def fnTitleTwiceRow : OpenClaim := { program := "ytokigfnjmfnblaadoor", sum := "66c90a8605ca03bbca27e79c5208dd846ef881e4cd58555b4e75ed255095e33d", func := "loop.example/lib-foldedtexts/laws.FnTitleTwice", spec := "fnTitleTwice", inPlace := ["internal/abi.NoEscape", "internal/bytealg.MakeNoZero"], unfollowed := true, recurses := true, named := ["unicode/utf8.first", "unicode/utf8.acceptRanges", "unicode.CaseRanges"], apart := false, laid := [("unicode/utf8.acceptRanges", laid_unicode_utf8_acceptRanges), ("unicode.CaseRanges", laid_unicode_CaseRanges), ("unicode/utf8.first", laid_unicode_utf8_first)] }
def FnTitleTwiceSaid : Prop := fnTitleTwiceRow.holds Tryd.pinned (OpenSpec.ofChange fnTitleTwiceSpec)

/-- ITS FALSE NEIGHBOUR: 'it returns false'. Refute it at one input. -/
def fnTitleTwiceWrong : ChangeSpec := { name := "fnTitleTwice", fn := fun _ => fun
  | [d] => { results := [.lit (.bool false)], args := [d] }
  | _ => none }
def FnTitleTwiceWrongFalsely : Prop := fnTitleTwiceRow.holds Tryd.pinned (OpenSpec.ofChange fnTitleTwiceWrong)

/-- 'laws.FnExactTitleAny': WHATEVER THE INPUT: true; the input reads as it did. -/
def fnExactTitleAnySpec : ChangeSpec := { name := "fnExactTitleAny", fn := fun _ => fun
  | [d] => { results := [.lit (.bool true)], args := [d] }
  | _ => none }
def fnExactTitleAnyRow : OpenClaim := { program := "ytokigfnjmfnblaadoor", sum := "66c90a8605ca03bbca27e79c5208dd846ef881e4cd58555b4e75ed255095e33d", func := "loop.example/lib-foldedtexts/laws.FnExactTitleAny", spec := "fnExactTitleAny", inPlace := ["internal/abi.NoEscape", "internal/bytealg.MakeNoZero"], unfollowed := true, recurses := true, named := ["unicode/utf8.first", "unicode/utf8.acceptRanges", "unicode.CaseRanges"], apart := false, laid := [("unicode/utf8.acceptRanges", laid_unicode_utf8_acceptRanges), ("unicode.CaseRanges", laid_unicode_CaseRanges), ("unicode/utf8.first", laid_unicode_utf8_first)] }
def FnExactTitleAnySaid : Prop := fnExactTitleAnyRow.holds Tryd.pinned (OpenSpec.ofChange fnExactTitleAnySpec)

/-- ITS FALSE NEIGHBOUR: 'it returns false'. Refute it at one input. -/
def fnExactTitleAnyWrong : ChangeSpec := { name := "fnExactTitleAny", fn := fun _ => fun
  | [d] => { results := [.lit (.bool false)], args := [d] }
  | _ => none }
def FnExactTitleAnyWrongFalsely : Prop := fnExactTitleAnyRow.holds Tryd.pinned (OpenSpec.ofChange fnExactTitleAnyWrong)

/-- 'laws.FnExactLower': WHATEVER THE INPUT: true; the input reads as it did. -/
def fnExactLowerSpec : ChangeSpec := { name := "fnExactLower", fn := fun _ => fun
  | [d] => { results := [.lit (.bool true)], args := [d] }
  | _ => none }
def fnExactLowerRow : OpenClaim := { program := "ytokigfnjmfnblaadoor", sum := "66c90a8605ca03bbca27e79c5208dd846ef881e4cd58555b4e75ed255095e33d", func := "loop.example/lib-foldedtexts/laws.FnExactLower", spec := "fnExactLower", inPlace := ["internal/abi.NoEscape", "internal/bytealg.MakeNoZero"], unfollowed := true, recurses := true, named := ["unicode/utf8.first", "unicode/utf8.acceptRanges", "unicode.CaseRanges"], apart := false, laid := [("unicode/utf8.acceptRanges", laid_unicode_utf8_acceptRanges), ("unicode.CaseRanges", laid_unicode_CaseRanges), ("unicode/utf8.first", laid_unicode_utf8_first)] }
def FnExactLowerSaid : Prop := fnExactLowerRow.holds Tryd.pinned (OpenSpec.ofChange fnExactLowerSpec)

/-- ITS FALSE NEIGHBOUR: 'it returns false'. Refute it at one input. -/
def fnExactLowerWrong : ChangeSpec := { name := "fnExactLower", fn := fun _ => fun
  | [d] => { results := [.lit (.bool false)], args := [d] }
  | _ => none }
def FnExactLowerWrongFalsely : Prop := fnExactLowerRow.holds Tryd.pinned (OpenSpec.ofChange fnExactLowerWrong)

/-- 'laws.FnExactLowerAny': WHATEVER THE INPUT: true; the input reads as it did. -/
def fnExactLowerAnySpec : ChangeSpec := { name := "fnExactLowerAny", fn := fun _ => fun
  | [d] => { results := [.lit (.bool true)], args := [d] }
  | _ => none }
def fnExactLowerAnyRow : OpenClaim := { program := "ytokigfnjmfnblaadoor", sum := "66c90a8605ca03bbca27e79c5208dd846ef881e4cd58555b4e75ed255095e33d", func := "loop.example/lib-foldedtexts/laws.FnExactLowerAny", spec := "fnExactLowerAny", inPlace := ["internal/abi.NoEscape", "internal/bytealg.MakeNoZero"], unfollowed := true, recurses := true, named := ["unicode/utf8.first", "unicode/utf8.acceptRanges", "unicode.CaseRanges"], apart := false, laid := [("unicode/utf8.acceptRanges", laid_unicode_utf8_acceptRanges), ("unicode.CaseRanges", laid_unicode_CaseRanges), ("unicode/utf8.first", laid_unicode_utf8_first)] }
def FnExactLowerAnySaid : Prop := fnExactLowerAnyRow.holds Tryd.pinned (OpenSpec.ofChange fnExactLowerAnySpec)

/-- ITS FALSE NEIGHBOUR: 'it returns false'. Refute it at one input. -/
def fnExactLowerAnyWrong : ChangeSpec := { name := "fnExactLowerAny", fn := fun _ => fun
  | [d] => { results := [.lit (.bool false)], args := [d] }
  | _ => none }
def FnExactLowerAnyWrongFalsely : Prop := fnExactLowerAnyRow.holds Tryd.pinned (OpenSpec.ofChange fnExactLowerAnyWrong)

/-- 'laws.FnExactUpper': WHATEVER THE INPUT: true; the input reads as it did. -/
def fnExactUpperSpec : ChangeSpec := { name := "fnExactUpper", fn := fun _ => fun
  | [d] => { results := [.lit (.bool true)], args := [d] }
  | _ => none }
def fnExactUpperRow : OpenClaim := { program := "ytokigfnjmfnblaadoor", sum := "66c90a8605ca03bbca27e79c5208dd846ef881e4cd58555b4e75ed255095e33d", func := "loop.example/lib-foldedtexts/laws.FnExactUpper", spec := "fnExactUpper", inPlace := ["internal/abi.NoEscape", "internal/bytealg.MakeNoZero"], unfollowed := true, recurses := true, named := ["unicode/utf8.first", "unicode/utf8.acceptRanges", "unicode.CaseRanges"], apart := false, laid := [("unicode/utf8.acceptRanges", laid_unicode_utf8_acceptRanges), ("unicode.CaseRanges", laid_unicode_CaseRanges), ("unicode/utf8.first", laid_unicode_utf8_first)] }
def FnExactUpperSaid : Prop := fnExactUpperRow.holds Tryd.pinned (OpenSpec.ofChange fnExactUpperSpec)

/-- ITS FALSE NEIGHBOUR: 'it returns false'. Refute it at one input. -/
def fnExactUpperWrong : ChangeSpec := { name := "fnExactUpper", fn := fun _ => fun
  | [d] => { results := [.lit (.bool false)], args := [d] }
  | _ => none }
def FnExactUpperWrongFalsely : Prop := fnExactUpperRow.holds Tryd.pinned (OpenSpec.ofChange fnExactUpperWrong)

/-- 'laws.FnExactUpperAny': WHATEVER THE INPUT: true; the input reads as it did. -/
def fnExactUpperAnySpec : ChangeSpec := { name := "fnExactUpperAny", fn := fun _ => fun
  | [d] => { results := [.lit (.bool true)], args := [d] }
  | _ => none }
def fnExactUpperAnyRow : OpenClaim := { program := "ytokigfnjmfnblaadoor", sum := "66c90a8605ca03bbca27e79c5208dd846ef881e4cd58555b4e75ed255095e33d", func := "loop.example/lib-foldedtexts/laws.FnExactUpperAny", spec := "fnExactUpperAny", inPlace := ["internal/abi.NoEscape", "internal/bytealg.MakeNoZero"], unfollowed := true, recurses := true, named := ["unicode/utf8.first", "unicode/utf8.acceptRanges", "unicode.CaseRanges"], apart := false, laid := [("unicode/utf8.acceptRanges", laid_unicode_utf8_acceptRanges), ("unicode.CaseRanges", laid_unicode_CaseRanges), ("unicode/utf8.first", laid_unicode_utf8_first)] }
def FnExactUpperAnySaid : Prop := fnExactUpperAnyRow.holds Tryd.pinned (OpenSpec.ofChange fnExactUpperAnySpec)

/-- ITS FALSE NEIGHBOUR: 'it returns false'. Refute it at one input. -/
def fnExactUpperAnyWrong : ChangeSpec := { name := "fnExactUpperAny", fn := fun _ => fun
  | [d] => { results := [.lit (.bool false)], args := [d] }
  | _ => none }
def FnExactUpperAnyWrongFalsely : Prop := fnExactUpperAnyRow.holds Tryd.pinned (OpenSpec.ofChange fnExactUpperAnyWrong)

/-- 'laws.FnCaseTwice': WHATEVER THE INPUT: true; the input reads as it did. -/
def fnCaseTwiceSpec : ChangeSpec := { name := "fnCaseTwice", fn := fun _ => fun
  | [d] => { results := [.lit (.bool true)], args := [d] }
  | _ => none }
def fnCaseTwiceRow : OpenClaim := { program := "ytokigfnjmfnblaadoor", sum := "66c90a8605ca03bbca27e79c5208dd846ef881e4cd58555b4e75ed255095e33d", func := "loop.example/lib-foldedtexts/laws.FnCaseTwice", spec := "fnCaseTwice", inPlace := ["internal/abi.NoEscape", "internal/bytealg.MakeNoZero"], unfollowed := true, recurses := true, named := ["unicode/utf8.first", "unicode/utf8.acceptRanges", "unicode.CaseRanges"], apart := false, laid := [("unicode/utf8.acceptRanges", laid_unicode_utf8_acceptRanges), ("unicode.CaseRanges", laid_unicode_CaseRanges), ("unicode/utf8.first", laid_unicode_utf8_first)] }
def FnCaseTwiceSaid : Prop := fnCaseTwiceRow.holds Tryd.pinned (OpenSpec.ofChange fnCaseTwiceSpec)

/-- ITS FALSE NEIGHBOUR: 'it returns false'. Refute it at one input. -/
def fnCaseTwiceWrong : ChangeSpec := { name := "fnCaseTwice", fn := fun _ => fun
  | [d] => { results := [.lit (.bool false)], args := [d] }
  | _ => none }
def FnCaseTwiceWrongFalsely : Prop := fnCaseTwiceRow.holds Tryd.pinned (OpenSpec.ofChange fnCaseTwiceWrong)

/-- 'laws.FnUpperAscii': WHATEVER THE INPUT: true; the input reads as it did. -/
def fnUpperAsciiSpec : ChangeSpec := { name := "fnUpperAscii", fn := fun _ => fun
  | [d] => { results := [.lit (.bool true)], args := [d] }
  | _ => none }
def fnUpperAsciiRow : OpenClaim := { program := "ytokigfnjmfnblaadoor", sum := "66c90a8605ca03bbca27e79c5208dd846ef881e4cd58555b4e75ed255095e33d", func := "loop.example/lib-foldedtexts/laws.FnUpperAscii", spec := "fnUpperAscii", inPlace := ["internal/abi.NoEscape", "internal/bytealg.MakeNoZero"], unfollowed := true, recurses := true, named := ["unicode/utf8.first", "unicode/utf8.acceptRanges", "unicode.CaseRanges"], apart := false, laid := [("unicode/utf8.acceptRanges", laid_unicode_utf8_acceptRanges), ("unicode.CaseRanges", laid_unicode_CaseRanges), ("unicode/utf8.first", laid_unicode_utf8_first)] }
def FnUpperAsciiSaid : Prop := fnUpperAsciiRow.holds Tryd.pinned (OpenSpec.ofChange fnUpperAsciiSpec)

/-- ITS FALSE NEIGHBOUR: 'it returns false'. Refute it at one input. -/
def fnUpperAsciiWrong : ChangeSpec := { name := "fnUpperAscii", fn := fun _ => fun
  | [d] => { results := [.lit (.bool false)], args := [d] }
  | _ => none }
def FnUpperAsciiWrongFalsely : Prop := fnUpperAsciiRow.holds Tryd.pinned (OpenSpec.ofChange fnUpperAsciiWrong)

/-- 'laws.FnLowerMap': WHATEVER THE INPUT: true; the input reads as it did. -/
def fnLowerMapSpec : ChangeSpec := { name := "fnLowerMap", fn := fun _ => fun
  | [d] => { results := [.lit (.bool true)], args := [d] }
  | _ => none }
def fnLowerMapRow : OpenClaim := { program := "ytokigfnjmfnblaadoor", sum := "66c90a8605ca03bbca27e79c5208dd846ef881e4cd58555b4e75ed255095e33d", func := "loop.example/lib-foldedtexts/laws.FnLowerMap", spec := "fnLowerMap", inPlace := ["internal/abi.NoEscape", "internal/bytealg.MakeNoZero"], unfollowed := true, recurses := true, named := ["unicode/utf8.first", "unicode/utf8.acceptRanges", "unicode.CaseRanges"], apart := false, laid := [("unicode/utf8.acceptRanges", laid_unicode_utf8_acceptRanges), ("unicode.CaseRanges", laid_unicode_CaseRanges), ("unicode/utf8.first", laid_unicode_utf8_first)] }
def FnLowerMapSaid : Prop := fnLowerMapRow.holds Tryd.pinned (OpenSpec.ofChange fnLowerMapSpec)

/-- ITS FALSE NEIGHBOUR: 'it returns false'. Refute it at one input. -/
def fnLowerMapWrong : ChangeSpec := { name := "fnLowerMap", fn := fun _ => fun
  | [d] => { results := [.lit (.bool false)], args := [d] }
  | _ => none }
def FnLowerMapWrongFalsely : Prop := fnLowerMapRow.holds Tryd.pinned (OpenSpec.ofChange fnLowerMapWrong)

/-- 'laws.FnUpperMap': WHATEVER THE INPUT: true; the input reads as it did. -/
def fnUpperMapSpec : ChangeSpec := { name := "fnUpperMap", fn := fun _ => fun
  | [d] => { results := [.lit (.bool true)], args := [d] }
  | _ => none }
def fnUpperMapRow : OpenClaim := { program := "ytokigfnjmfnblaadoor", sum := "66c90a8605ca03bbca27e79c5208dd846ef881e4cd58555b4e75ed255095e33d", func := "loop.example/lib-foldedtexts/laws.FnUpperMap", spec := "fnUpperMap", inPlace := ["internal/abi.NoEscape", "internal/bytealg.MakeNoZero"], unfollowed := true, recurses := true, named := ["unicode/utf8.first", "unicode/utf8.acceptRanges", "unicode.CaseRanges"], apart := false, laid := [("unicode/utf8.acceptRanges", laid_unicode_utf8_acceptRanges), ("unicode.CaseRanges", laid_unicode_CaseRanges), ("unicode/utf8.first", laid_unicode_utf8_first)] }
def FnUpperMapSaid : Prop := fnUpperMapRow.holds Tryd.pinned (OpenSpec.ofChange fnUpperMapSpec)

/-- ITS FALSE NEIGHBOUR: 'it returns false'. Refute it at one input. -/
def fnUpperMapWrong : ChangeSpec := { name := "fnUpperMap", fn := fun _ => fun
  | [d] => { results := [.lit (.bool false)], args := [d] }
  | _ => none }
def FnUpperMapWrongFalsely : Prop := fnUpperMapRow.holds Tryd.pinned (OpenSpec.ofChange fnUpperMapWrong)

/-- 'laws.FnCaseMapAny': WHATEVER THE INPUT: true; the input reads as it did. -/
def fnCaseMapAnySpec : ChangeSpec := { name := "fnCaseMapAny", fn := fun _ => fun
  | [d] => { results := [.lit (.bool true)], args := [d] }
  | _ => none }
def fnCaseMapAnyRow : OpenClaim := { program := "ytokigfnjmfnblaadoor", sum := "66c90a8605ca03bbca27e79c5208dd846ef881e4cd58555b4e75ed255095e33d", func := "loop.example/lib-foldedtexts/laws.FnCaseMapAny", spec := "fnCaseMapAny", inPlace := ["internal/abi.NoEscape", "internal/bytealg.MakeNoZero"], unfollowed := true, recurses := true, named := ["unicode/utf8.first", "unicode/utf8.acceptRanges", "unicode.CaseRanges"], apart := false, laid := [("unicode/utf8.acceptRanges", laid_unicode_utf8_acceptRanges), ("unicode.CaseRanges", laid_unicode_CaseRanges), ("unicode/utf8.first", laid_unicode_utf8_first)] }
def FnCaseMapAnySaid : Prop := fnCaseMapAnyRow.holds Tryd.pinned (OpenSpec.ofChange fnCaseMapAnySpec)

/-- ITS FALSE NEIGHBOUR: 'it returns false'. Refute it at one input. -/
def fnCaseMapAnyWrong : ChangeSpec := { name := "fnCaseMapAny", fn := fun _ => fun
  | [d] => { results := [.lit (.bool false)], args := [d] }
  | _ => none }
def FnCaseMapAnyWrongFalsely : Prop := fnCaseMapAnyRow.holds Tryd.pinned (OpenSpec.ofChange fnCaseMapAnyWrong)

/- THE SECOND FORM. 'bulk': how many values and letters a reading holds, each counted each time it is reached (what is shared counts as often as it is met; a slice's spare places count too). A statement '..UptoSaid' is the law's where the arguments, and the package variables that the reading takes, are together of bulk at most 1048576: NARROWER than '..Said'. Prove '..Said' where nothing that the law and all that it calls make is longer than what came in: it says more and counts as full. Else prove '..UptoSaid'. A law counts once. -/
mutual
def uptoBulk {H : Type} : DataW H → Nat
  | .lit (.string bytes) => bytes.length + 1
  | .lit _ => 1
  | .nil => 1
  | .ptr d => uptoBulk d + 1
  | .slice elems spare => uptoBulkAll elems + uptoBulkAll spare + 1
  | .agg parts => uptoBulkAll parts + 1
  | .iface _ d => uptoBulk d + 1
  | .map entries => uptoBulkEntries entries + 1
  | .held _ => 1
def uptoBulkAll {H : Type} : List (DataW H) → Nat
  | [] => 0
  | d :: r => uptoBulk d + uptoBulkAll r
def uptoBulkEntries {H : Type} : List (Lit × DataW H) → Nat
  | [] => 0
  | x :: r => uptoBulkEntry x + uptoBulkEntries r
def uptoBulkEntry {H : Type} : Lit × DataW H → Nat
  | (.string bytes, d) => bytes.length + uptoBulk d + 1
  | (_, d) => uptoBulk d + 1
 end
def uptoSmall : (H : Type) → List (DataW H) → Bool := fun _ ds => decide (uptoBulkAll ds ≤ 1048576)
def OpenSpec.upto (s : _root_.Go.ChangeSpec) : _root_.Go.OpenSpec := { _root_.Go.OpenSpec.ofChange s with cond := some uptoSmall }

/-- 'laws.FnRuneCases', WHERE WHAT IT READS IS OF BULK AT MOST 1048576: true; the input reads as it did. -/
def fnRuneCasesUptoRow : OpenClaim := { program := "ytokigfnjmfnblaadoor", sum := "66c90a8605ca03bbca27e79c5208dd846ef881e4cd58555b4e75ed255095e33d", func := "loop.example/lib-foldedtexts/laws.FnRuneCases", spec := "fnRuneCases", named := ["unicode.CaseRanges", "unicode.properties", "unicode.Letter"], apart := false, laid := [("unicode.properties", laid_unicode_properties), ("unicode.CaseRanges", laid_unicode_CaseRanges), ("unicode.Letter", laid_unicode_Letter)], narrowed := true }
def FnRuneCasesUptoSaid : Prop := fnRuneCasesUptoRow.holds Tryd.pinned (OpenSpec.upto fnRuneCasesSpec)

/-- 'laws.FnTitleTwice', WHERE WHAT IT READS IS OF BULK AT MOST 1048576: true; the input reads as it did. -/
def fnTitleTwiceUptoRow : OpenClaim := { program := "ytokigfnjmfnblaadoor", sum := "66c90a8605ca03bbca27e79c5208dd846ef881e4cd58555b4e75ed255095e33d", func := "loop.example/lib-foldedtexts/laws.FnTitleTwice", spec := "fnTitleTwice", inPlace := ["internal/abi.NoEscape", "internal/bytealg.MakeNoZero"], unfollowed := true, recurses := true, named := ["unicode/utf8.first", "unicode/utf8.acceptRanges", "unicode.CaseRanges"], apart := false, laid := [("unicode/utf8.acceptRanges", laid_unicode_utf8_acceptRanges), ("unicode.CaseRanges", laid_unicode_CaseRanges), ("unicode/utf8.first", laid_unicode_utf8_first)], narrowed := true }
def FnTitleTwiceUptoSaid : Prop := fnTitleTwiceUptoRow.holds Tryd.pinned (OpenSpec.upto fnTitleTwiceSpec)

/-- 'laws.FnExactTitleAny', WHERE WHAT IT READS IS OF BULK AT MOST 1048576: true; the input reads as it did. -/
def fnExactTitleAnyUptoRow : OpenClaim := { program := "ytokigfnjmfnblaadoor", sum := "66c90a8605ca03bbca27e79c5208dd846ef881e4cd58555b4e75ed255095e33d", func := "loop.example/lib-foldedtexts/laws.FnExactTitleAny", spec := "fnExactTitleAny", inPlace := ["internal/abi.NoEscape", "internal/bytealg.MakeNoZero"], unfollowed := true, recurses := true, named := ["unicode/utf8.first", "unicode/utf8.acceptRanges", "unicode.CaseRanges"], apart := false, laid := [("unicode/utf8.acceptRanges", laid_unicode_utf8_acceptRanges), ("unicode.CaseRanges", laid_unicode_CaseRanges), ("unicode/utf8.first", laid_unicode_utf8_first)], narrowed := true }
def FnExactTitleAnyUptoSaid : Prop := fnExactTitleAnyUptoRow.holds Tryd.pinned (OpenSpec.upto fnExactTitleAnySpec)

/-- 'laws.FnExactLower', WHERE WHAT IT READS IS OF BULK AT MOST 1048576: true; the input reads as it did. -/
def fnExactLowerUptoRow : OpenClaim := { program := "ytokigfnjmfnblaadoor", sum := "66c90a8605ca03bbca27e79c5208dd846ef881e4cd58555b4e75ed255095e33d", func := "loop.example/lib-foldedtexts/laws.FnExactLower", spec := "fnExactLower", inPlace := ["internal/abi.NoEscape", "internal/bytealg.MakeNoZero"], unfollowed := true, recurses := true, named := ["unicode/utf8.first", "unicode/utf8.acceptRanges", "unicode.CaseRanges"], apart := false, laid := [("unicode/utf8.acceptRanges", laid_unicode_utf8_acceptRanges), ("unicode.CaseRanges", laid_unicode_CaseRanges), ("unicode/utf8.first", laid_unicode_utf8_first)], narrowed := true }
def FnExactLowerUptoSaid : Prop := fnExactLowerUptoRow.holds Tryd.pinned (OpenSpec.upto fnExactLowerSpec)

/-- 'laws.FnExactLowerAny', WHERE WHAT IT READS IS OF BULK AT MOST 1048576: true; the input reads as it did. -/
def fnExactLowerAnyUptoRow : OpenClaim := { program := "ytokigfnjmfnblaadoor", sum := "66c90a8605ca03bbca27e79c5208dd846ef881e4cd58555b4e75ed255095e33d", func := "loop.example/lib-foldedtexts/laws.FnExactLowerAny", spec := "fnExactLowerAny", inPlace := ["internal/abi.NoEscape", "internal/bytealg.MakeNoZero"], unfollowed := true, recurses := true, named := ["unicode/utf8.first", "unicode/utf8.acceptRanges", "unicode.CaseRanges"], apart := false, laid := [("unicode/utf8.acceptRanges", laid_unicode_utf8_acceptRanges), ("unicode.CaseRanges", laid_unicode_CaseRanges), ("unicode/utf8.first", laid_unicode_utf8_first)], narrowed := true }
def FnExactLowerAnyUptoSaid : Prop := fnExactLowerAnyUptoRow.holds Tryd.pinned (OpenSpec.upto fnExactLowerAnySpec)

/-- 'laws.FnExactUpper', WHERE WHAT IT READS IS OF BULK AT MOST 1048576: true; the input reads as it did. -/
def fnExactUpperUptoRow : OpenClaim := { program := "ytokigfnjmfnblaadoor", sum := "66c90a8605ca03bbca27e79c5208dd846ef881e4cd58555b4e75ed255095e33d", func := "loop.example/lib-foldedtexts/laws.FnExactUpper", spec := "fnExactUpper", inPlace := ["internal/abi.NoEscape", "internal/bytealg.MakeNoZero"], unfollowed := true, recurses := true, named := ["unicode/utf8.first", "unicode/utf8.acceptRanges", "unicode.CaseRanges"], apart := false, laid := [("unicode/utf8.acceptRanges", laid_unicode_utf8_acceptRanges), ("unicode.CaseRanges", laid_unicode_CaseRanges), ("unicode/utf8.first", laid_unicode_utf8_first)], narrowed := true }
def FnExactUpperUptoSaid : Prop := fnExactUpperUptoRow.holds Tryd.pinned (OpenSpec.upto fnExactUpperSpec)

/-- 'laws.FnExactUpperAny', WHERE WHAT IT READS IS OF BULK AT MOST 1048576: true; the input reads as it did. -/
def fnExactUpperAnyUptoRow : OpenClaim := { program := "ytokigfnjmfnblaadoor", sum := "66c90a8605ca03bbca27e79c5208dd846ef881e4cd58555b4e75ed255095e33d", func := "loop.example/lib-foldedtexts/laws.FnExactUpperAny", spec := "fnExactUpperAny", inPlace := ["internal/abi.NoEscape", "internal/bytealg.MakeNoZero"], unfollowed := true, recurses := true, named := ["unicode/utf8.first", "unicode/utf8.acceptRanges", "unicode.CaseRanges"], apart := false, laid := [("unicode/utf8.acceptRanges", laid_unicode_utf8_acceptRanges), ("unicode.CaseRanges", laid_unicode_CaseRanges), ("unicode/utf8.first", laid_unicode_utf8_first)], narrowed := true }
def FnExactUpperAnyUptoSaid : Prop := fnExactUpperAnyUptoRow.holds Tryd.pinned (OpenSpec.upto fnExactUpperAnySpec)

/-- 'laws.FnCaseTwice', WHERE WHAT IT READS IS OF BULK AT MOST 1048576: true; the input reads as it did. -/
def fnCaseTwiceUptoRow : OpenClaim := { program := "ytokigfnjmfnblaadoor", sum := "66c90a8605ca03bbca27e79c5208dd846ef881e4cd58555b4e75ed255095e33d", func := "loop.example/lib-foldedtexts/laws.FnCaseTwice", spec := "fnCaseTwice", inPlace := ["internal/abi.NoEscape", "internal/bytealg.MakeNoZero"], unfollowed := true, recurses := true, named := ["unicode/utf8.first", "unicode/utf8.acceptRanges", "unicode.CaseRanges"], apart := false, laid := [("unicode/utf8.acceptRanges", laid_unicode_utf8_acceptRanges), ("unicode.CaseRanges", laid_unicode_CaseRanges), ("unicode/utf8.first", laid_unicode_utf8_first)], narrowed := true }
def FnCaseTwiceUptoSaid : Prop := fnCaseTwiceUptoRow.holds Tryd.pinned (OpenSpec.upto fnCaseTwiceSpec)

/-- 'laws.FnUpperAscii', WHERE WHAT IT READS IS OF BULK AT MOST 1048576: true; the input reads as it did. -/
def fnUpperAsciiUptoRow : OpenClaim := { program := "ytokigfnjmfnblaadoor", sum := "66c90a8605ca03bbca27e79c5208dd846ef881e4cd58555b4e75ed255095e33d", func := "loop.example/lib-foldedtexts/laws.FnUpperAscii", spec := "fnUpperAscii", inPlace := ["internal/abi.NoEscape", "internal/bytealg.MakeNoZero"], unfollowed := true, recurses := true, named := ["unicode/utf8.first", "unicode/utf8.acceptRanges", "unicode.CaseRanges"], apart := false, laid := [("unicode/utf8.acceptRanges", laid_unicode_utf8_acceptRanges), ("unicode.CaseRanges", laid_unicode_CaseRanges), ("unicode/utf8.first", laid_unicode_utf8_first)], narrowed := true }
def FnUpperAsciiUptoSaid : Prop := fnUpperAsciiUptoRow.holds Tryd.pinned (OpenSpec.upto fnUpperAsciiSpec)

/-- 'laws.FnLowerMap', WHERE WHAT IT READS IS OF BULK AT MOST 1048576: true; the input reads as it did. -/
def fnLowerMapUptoRow : OpenClaim := { program := "ytokigfnjmfnblaadoor", sum := "66c90a8605ca03bbca27e79c5208dd846ef881e4cd58555b4e75ed255095e33d", func := "loop.example/lib-foldedtexts/laws.FnLowerMap", spec := "fnLowerMap", inPlace := ["internal/abi.NoEscape", "internal/bytealg.MakeNoZero"], unfollowed := true, recurses := true, named := ["unicode/utf8.first", "unicode/utf8.acceptRanges", "unicode.CaseRanges"], apart := false, laid := [("unicode/utf8.acceptRanges", laid_unicode_utf8_acceptRanges), ("unicode.CaseRanges", laid_unicode_CaseRanges), ("unicode/utf8.first", laid_unicode_utf8_first)], narrowed := true }
def FnLowerMapUptoSaid : Prop := fnLowerMapUptoRow.holds Tryd.pinned (OpenSpec.upto fnLowerMapSpec)

/-- 'laws.FnUpperMap', WHERE WHAT IT READS IS OF BULK AT MOST 1048576: true; the input reads as it did. -/
def fnUpperMapUptoRow : OpenClaim := { program := "ytokigfnjmfnblaadoor", sum := "66c90a8605ca03bbca27e79c5208dd846ef881e4cd58555b4e75ed255095e33d", func := "loop.example/lib-foldedtexts/laws.FnUpperMap", spec := "fnUpperMap", inPlace := ["internal/abi.NoEscape", "internal/bytealg.MakeNoZero"], unfollowed := true, recurses := true, named := ["unicode/utf8.first", "unicode/utf8.acceptRanges", "unicode.CaseRanges"], apart := false, laid := [("unicode/utf8.acceptRanges", laid_unicode_utf8_acceptRanges), ("unicode.CaseRanges", laid_unicode_CaseRanges), ("unicode/utf8.first", laid_unicode_utf8_first)], narrowed := true }
def FnUpperMapUptoSaid : Prop := fnUpperMapUptoRow.holds Tryd.pinned (OpenSpec.upto fnUpperMapSpec)

/-- 'laws.FnCaseMapAny', WHERE WHAT IT READS IS OF BULK AT MOST 1048576: true; the input reads as it did. -/
def fnCaseMapAnyUptoRow : OpenClaim := { program := "ytokigfnjmfnblaadoor", sum := "66c90a8605ca03bbca27e79c5208dd846ef881e4cd58555b4e75ed255095e33d", func := "loop.example/lib-foldedtexts/laws.FnCaseMapAny", spec := "fnCaseMapAny", inPlace := ["internal/abi.NoEscape", "internal/bytealg.MakeNoZero"], unfollowed := true, recurses := true, named := ["unicode/utf8.first", "unicode/utf8.acceptRanges", "unicode.CaseRanges"], apart := false, laid := [("unicode/utf8.acceptRanges", laid_unicode_utf8_acceptRanges), ("unicode.CaseRanges", laid_unicode_CaseRanges), ("unicode/utf8.first", laid_unicode_utf8_first)], narrowed := true }
def FnCaseMapAnyUptoSaid : Prop := fnCaseMapAnyUptoRow.holds Tryd.pinned (OpenSpec.upto fnCaseMapAnySpec)

end Rows
end Go.Proofs.YtokigfnjmfnblaaDoor
