/-
  DERIVED. GIVEN WITH THE SEED: THE CARDS: each row of YtokigfnjmfnblaaDoorRows.lean that lists a variable, with what it lists TIED to the program's text (the seventh form; the later family's looks); each row that meets fmt, with fmt's text TOLD by the authors' own Lean function (tested against real Go, not proved from fmt's source: count such statements apart). THE CARD IS WHAT COUNTS. Prove the row's statement (the work); the ties are given (YtokigfnjmfnblaaDoorTie.lean); close each card by the builder's one call (the guide's Derived/Test/ToyasCard.lean, 'card_holds'). Laid BY PROGRAM, IN A SANDBOX (cutbox-door.mjs). By AI agents, Wed Nov 11 2026. No macro, syntax, notation, axiom, sorry.
-/
import Derived.Test.YtokigfnjmfnblaaDoorRows
import GoSem.ClaimSeven
namespace Go.Proofs.YtokigfnjmfnblaaDoor
namespace Rows

/-- THE TIED CARD OF 'laws.FnRuneCases'. -/
def fnRuneCasesCard : Claim7 := { stood := { row := fnRuneCasesRow, standIns := [], harness := (true, "91d6407297d5a76521ec28ce9e72872087c472dcd19f3fd76530e2547f6a3868"), looks := false }, kinds := [], alts := [], laidByText := true, laidKinds := [.data, .pinned, .pinned], laidTests := true, laidLooks := .later }
def FnRuneCasesCardSaid : Prop := Claim7.holds Tryd.pinned (.plain (OpenSpec.ofChange fnRuneCasesSpec)) fnRuneCasesCard

/-- THE TIED CARD OF 'laws.FnTitleTwice'. -/
def fnTitleTwiceCard : Claim7 := { stood := { row := fnTitleTwiceRow, standIns := [], harness := (true, "91d6407297d5a76521ec28ce9e72872087c472dcd19f3fd76530e2547f6a3868"), looks := false }, kinds := [], alts := [], laidByText := true, laidKinds := [.data, .pinned, .pinned], laidTests := true, laidLooks := .later }
def FnTitleTwiceCardSaid : Prop := Claim7.holds Tryd.pinned (.plain (OpenSpec.ofChange fnTitleTwiceSpec)) fnTitleTwiceCard

/-- THE TIED CARD OF 'laws.FnExactTitleAny'. -/
def fnExactTitleAnyCard : Claim7 := { stood := { row := fnExactTitleAnyRow, standIns := [], harness := (true, "91d6407297d5a76521ec28ce9e72872087c472dcd19f3fd76530e2547f6a3868"), looks := false }, kinds := [], alts := [], laidByText := true, laidKinds := [.data, .pinned, .pinned], laidTests := true, laidLooks := .later }
def FnExactTitleAnyCardSaid : Prop := Claim7.holds Tryd.pinned (.plain (OpenSpec.ofChange fnExactTitleAnySpec)) fnExactTitleAnyCard

/-- THE TIED CARD OF 'laws.FnExactLower'. -/
def fnExactLowerCard : Claim7 := { stood := { row := fnExactLowerRow, standIns := [], harness := (true, "91d6407297d5a76521ec28ce9e72872087c472dcd19f3fd76530e2547f6a3868"), looks := false }, kinds := [], alts := [], laidByText := true, laidKinds := [.data, .pinned, .pinned], laidTests := true, laidLooks := .later }
def FnExactLowerCardSaid : Prop := Claim7.holds Tryd.pinned (.plain (OpenSpec.ofChange fnExactLowerSpec)) fnExactLowerCard

/-- THE TIED CARD OF 'laws.FnExactLowerAny'. -/
def fnExactLowerAnyCard : Claim7 := { stood := { row := fnExactLowerAnyRow, standIns := [], harness := (true, "91d6407297d5a76521ec28ce9e72872087c472dcd19f3fd76530e2547f6a3868"), looks := false }, kinds := [], alts := [], laidByText := true, laidKinds := [.data, .pinned, .pinned], laidTests := true, laidLooks := .later }
def FnExactLowerAnyCardSaid : Prop := Claim7.holds Tryd.pinned (.plain (OpenSpec.ofChange fnExactLowerAnySpec)) fnExactLowerAnyCard

/-- THE TIED CARD OF 'laws.FnExactUpper'. -/
def fnExactUpperCard : Claim7 := { stood := { row := fnExactUpperRow, standIns := [], harness := (true, "91d6407297d5a76521ec28ce9e72872087c472dcd19f3fd76530e2547f6a3868"), looks := false }, kinds := [], alts := [], laidByText := true, laidKinds := [.data, .pinned, .pinned], laidTests := true, laidLooks := .later }
def FnExactUpperCardSaid : Prop := Claim7.holds Tryd.pinned (.plain (OpenSpec.ofChange fnExactUpperSpec)) fnExactUpperCard

/-- THE TIED CARD OF 'laws.FnExactUpperAny'. -/
def fnExactUpperAnyCard : Claim7 := { stood := { row := fnExactUpperAnyRow, standIns := [], harness := (true, "91d6407297d5a76521ec28ce9e72872087c472dcd19f3fd76530e2547f6a3868"), looks := false }, kinds := [], alts := [], laidByText := true, laidKinds := [.data, .pinned, .pinned], laidTests := true, laidLooks := .later }
def FnExactUpperAnyCardSaid : Prop := Claim7.holds Tryd.pinned (.plain (OpenSpec.ofChange fnExactUpperAnySpec)) fnExactUpperAnyCard

/-- THE TIED CARD OF 'laws.FnCaseTwice'. -/
def fnCaseTwiceCard : Claim7 := { stood := { row := fnCaseTwiceRow, standIns := [], harness := (true, "91d6407297d5a76521ec28ce9e72872087c472dcd19f3fd76530e2547f6a3868"), looks := false }, kinds := [], alts := [], laidByText := true, laidKinds := [.data, .pinned, .pinned], laidTests := true, laidLooks := .later }
def FnCaseTwiceCardSaid : Prop := Claim7.holds Tryd.pinned (.plain (OpenSpec.ofChange fnCaseTwiceSpec)) fnCaseTwiceCard

/-- THE TIED CARD OF 'laws.FnUpperAscii'. -/
def fnUpperAsciiCard : Claim7 := { stood := { row := fnUpperAsciiRow, standIns := [], harness := (true, "91d6407297d5a76521ec28ce9e72872087c472dcd19f3fd76530e2547f6a3868"), looks := false }, kinds := [], alts := [], laidByText := true, laidKinds := [.data, .pinned, .pinned], laidTests := true, laidLooks := .later }
def FnUpperAsciiCardSaid : Prop := Claim7.holds Tryd.pinned (.plain (OpenSpec.ofChange fnUpperAsciiSpec)) fnUpperAsciiCard

/-- THE TIED CARD OF 'laws.FnLowerMap'. -/
def fnLowerMapCard : Claim7 := { stood := { row := fnLowerMapRow, standIns := [], harness := (true, "91d6407297d5a76521ec28ce9e72872087c472dcd19f3fd76530e2547f6a3868"), looks := false }, kinds := [], alts := [], laidByText := true, laidKinds := [.data, .pinned, .pinned], laidTests := true, laidLooks := .later }
def FnLowerMapCardSaid : Prop := Claim7.holds Tryd.pinned (.plain (OpenSpec.ofChange fnLowerMapSpec)) fnLowerMapCard

/-- THE TIED CARD OF 'laws.FnUpperMap'. -/
def fnUpperMapCard : Claim7 := { stood := { row := fnUpperMapRow, standIns := [], harness := (true, "91d6407297d5a76521ec28ce9e72872087c472dcd19f3fd76530e2547f6a3868"), looks := false }, kinds := [], alts := [], laidByText := true, laidKinds := [.data, .pinned, .pinned], laidTests := true, laidLooks := .later }
def FnUpperMapCardSaid : Prop := Claim7.holds Tryd.pinned (.plain (OpenSpec.ofChange fnUpperMapSpec)) fnUpperMapCard

/-- THE TIED CARD OF 'laws.FnCaseMapAny'. -/
def fnCaseMapAnyCard : Claim7 := { stood := { row := fnCaseMapAnyRow, standIns := [], harness := (true, "91d6407297d5a76521ec28ce9e72872087c472dcd19f3fd76530e2547f6a3868"), looks := false }, kinds := [], alts := [], laidByText := true, laidKinds := [.data, .pinned, .pinned], laidTests := true, laidLooks := .later }
def FnCaseMapAnyCardSaid : Prop := Claim7.holds Tryd.pinned (.plain (OpenSpec.ofChange fnCaseMapAnySpec)) fnCaseMapAnyCard

/-- THE SECOND FORM's CARD OF 'laws.FnRuneCases'. -/
def fnRuneCasesUptoCard : Claim7 := { stood := { row := fnRuneCasesUptoRow, standIns := [], harness := (true, "91d6407297d5a76521ec28ce9e72872087c472dcd19f3fd76530e2547f6a3868"), looks := false }, kinds := [], alts := [], laidByText := true, laidKinds := [.data, .pinned, .pinned], laidTests := true, laidLooks := .later }
def FnRuneCasesUptoCardSaid : Prop := Claim7.holds Tryd.pinned (.plain (OpenSpec.upto fnRuneCasesSpec)) fnRuneCasesUptoCard

/-- THE SECOND FORM's CARD OF 'laws.FnTitleTwice'. -/
def fnTitleTwiceUptoCard : Claim7 := { stood := { row := fnTitleTwiceUptoRow, standIns := [], harness := (true, "91d6407297d5a76521ec28ce9e72872087c472dcd19f3fd76530e2547f6a3868"), looks := false }, kinds := [], alts := [], laidByText := true, laidKinds := [.data, .pinned, .pinned], laidTests := true, laidLooks := .later }
def FnTitleTwiceUptoCardSaid : Prop := Claim7.holds Tryd.pinned (.plain (OpenSpec.upto fnTitleTwiceSpec)) fnTitleTwiceUptoCard

/-- THE SECOND FORM's CARD OF 'laws.FnExactTitleAny'. -/
def fnExactTitleAnyUptoCard : Claim7 := { stood := { row := fnExactTitleAnyUptoRow, standIns := [], harness := (true, "91d6407297d5a76521ec28ce9e72872087c472dcd19f3fd76530e2547f6a3868"), looks := false }, kinds := [], alts := [], laidByText := true, laidKinds := [.data, .pinned, .pinned], laidTests := true, laidLooks := .later }
def FnExactTitleAnyUptoCardSaid : Prop := Claim7.holds Tryd.pinned (.plain (OpenSpec.upto fnExactTitleAnySpec)) fnExactTitleAnyUptoCard

/-- THE SECOND FORM's CARD OF 'laws.FnExactLower'. -/
def fnExactLowerUptoCard : Claim7 := { stood := { row := fnExactLowerUptoRow, standIns := [], harness := (true, "91d6407297d5a76521ec28ce9e72872087c472dcd19f3fd76530e2547f6a3868"), looks := false }, kinds := [], alts := [], laidByText := true, laidKinds := [.data, .pinned, .pinned], laidTests := true, laidLooks := .later }
def FnExactLowerUptoCardSaid : Prop := Claim7.holds Tryd.pinned (.plain (OpenSpec.upto fnExactLowerSpec)) fnExactLowerUptoCard

/-- THE SECOND FORM's CARD OF 'laws.FnExactLowerAny'. -/
def fnExactLowerAnyUptoCard : Claim7 := { stood := { row := fnExactLowerAnyUptoRow, standIns := [], harness := (true, "91d6407297d5a76521ec28ce9e72872087c472dcd19f3fd76530e2547f6a3868"), looks := false }, kinds := [], alts := [], laidByText := true, laidKinds := [.data, .pinned, .pinned], laidTests := true, laidLooks := .later }
def FnExactLowerAnyUptoCardSaid : Prop := Claim7.holds Tryd.pinned (.plain (OpenSpec.upto fnExactLowerAnySpec)) fnExactLowerAnyUptoCard

/-- THE SECOND FORM's CARD OF 'laws.FnExactUpper'. -/
def fnExactUpperUptoCard : Claim7 := { stood := { row := fnExactUpperUptoRow, standIns := [], harness := (true, "91d6407297d5a76521ec28ce9e72872087c472dcd19f3fd76530e2547f6a3868"), looks := false }, kinds := [], alts := [], laidByText := true, laidKinds := [.data, .pinned, .pinned], laidTests := true, laidLooks := .later }
def FnExactUpperUptoCardSaid : Prop := Claim7.holds Tryd.pinned (.plain (OpenSpec.upto fnExactUpperSpec)) fnExactUpperUptoCard

/-- THE SECOND FORM's CARD OF 'laws.FnExactUpperAny'. -/
def fnExactUpperAnyUptoCard : Claim7 := { stood := { row := fnExactUpperAnyUptoRow, standIns := [], harness := (true, "91d6407297d5a76521ec28ce9e72872087c472dcd19f3fd76530e2547f6a3868"), looks := false }, kinds := [], alts := [], laidByText := true, laidKinds := [.data, .pinned, .pinned], laidTests := true, laidLooks := .later }
def FnExactUpperAnyUptoCardSaid : Prop := Claim7.holds Tryd.pinned (.plain (OpenSpec.upto fnExactUpperAnySpec)) fnExactUpperAnyUptoCard

/-- THE SECOND FORM's CARD OF 'laws.FnCaseTwice'. -/
def fnCaseTwiceUptoCard : Claim7 := { stood := { row := fnCaseTwiceUptoRow, standIns := [], harness := (true, "91d6407297d5a76521ec28ce9e72872087c472dcd19f3fd76530e2547f6a3868"), looks := false }, kinds := [], alts := [], laidByText := true, laidKinds := [.data, .pinned, .pinned], laidTests := true, laidLooks := .later }
def FnCaseTwiceUptoCardSaid : Prop := Claim7.holds Tryd.pinned (.plain (OpenSpec.upto fnCaseTwiceSpec)) fnCaseTwiceUptoCard

/-- THE SECOND FORM's CARD OF 'laws.FnUpperAscii'. -/
def fnUpperAsciiUptoCard : Claim7 := { stood := { row := fnUpperAsciiUptoRow, standIns := [], harness := (true, "91d6407297d5a76521ec28ce9e72872087c472dcd19f3fd76530e2547f6a3868"), looks := false }, kinds := [], alts := [], laidByText := true, laidKinds := [.data, .pinned, .pinned], laidTests := true, laidLooks := .later }
def FnUpperAsciiUptoCardSaid : Prop := Claim7.holds Tryd.pinned (.plain (OpenSpec.upto fnUpperAsciiSpec)) fnUpperAsciiUptoCard

/-- THE SECOND FORM's CARD OF 'laws.FnLowerMap'. -/
def fnLowerMapUptoCard : Claim7 := { stood := { row := fnLowerMapUptoRow, standIns := [], harness := (true, "91d6407297d5a76521ec28ce9e72872087c472dcd19f3fd76530e2547f6a3868"), looks := false }, kinds := [], alts := [], laidByText := true, laidKinds := [.data, .pinned, .pinned], laidTests := true, laidLooks := .later }
def FnLowerMapUptoCardSaid : Prop := Claim7.holds Tryd.pinned (.plain (OpenSpec.upto fnLowerMapSpec)) fnLowerMapUptoCard

/-- THE SECOND FORM's CARD OF 'laws.FnUpperMap'. -/
def fnUpperMapUptoCard : Claim7 := { stood := { row := fnUpperMapUptoRow, standIns := [], harness := (true, "91d6407297d5a76521ec28ce9e72872087c472dcd19f3fd76530e2547f6a3868"), looks := false }, kinds := [], alts := [], laidByText := true, laidKinds := [.data, .pinned, .pinned], laidTests := true, laidLooks := .later }
def FnUpperMapUptoCardSaid : Prop := Claim7.holds Tryd.pinned (.plain (OpenSpec.upto fnUpperMapSpec)) fnUpperMapUptoCard

/-- THE SECOND FORM's CARD OF 'laws.FnCaseMapAny'. -/
def fnCaseMapAnyUptoCard : Claim7 := { stood := { row := fnCaseMapAnyUptoRow, standIns := [], harness := (true, "91d6407297d5a76521ec28ce9e72872087c472dcd19f3fd76530e2547f6a3868"), looks := false }, kinds := [], alts := [], laidByText := true, laidKinds := [.data, .pinned, .pinned], laidTests := true, laidLooks := .later }
def FnCaseMapAnyUptoCardSaid : Prop := Claim7.holds Tryd.pinned (.plain (OpenSpec.upto fnCaseMapAnySpec)) fnCaseMapAnyUptoCard
end Rows
end Go.Proofs.YtokigfnjmfnblaaDoor
