/-
  DERIVED. GIVEN WITH THE SEED: THE CARDS: each row of YtnlbeljdlmgclaaDoorRows.lean that lists a variable, with what it lists TIED to the program's text (the seventh form; the later family's looks); each row that meets fmt, with fmt's text TOLD by the authors' own Lean function (tested against real Go, not proved from fmt's source: count such statements apart). THE CARD IS WHAT COUNTS. Prove the row's statement (the work); the ties are given (YtnlbeljdlmgclaaDoorTie.lean); close each card by the builder's one call (the guide's Derived/Test/ToyasCard.lean, 'card_holds'). Laid BY PROGRAM, IN A SANDBOX (cutbox-door.mjs). By AI agents, Wed Nov 11 2026. No macro, syntax, notation, axiom, sorry.
-/
import Derived.Test.YtnlbeljdlmgclaaDoorRows
import GoSem.ClaimSeven
namespace Go.Proofs.YtnlbeljdlmgclaaDoor
namespace Rows

/-- THE TIED CARD OF 'laws.FnFoldCase'. -/
def fnFoldCaseCard : Claim7 := { stood := { row := fnFoldCaseRow, standIns := [], harness := (true, "44149fb022992a9e94bc56ad6a4357e43f7b6927431f6237615d53d05ae4f707"), looks := false }, kinds := [], alts := [], laidByText := true, laidKinds := [.data, .data, .data, .pinned, .pinned], laidTests := true, laidLooks := .later }
def FnFoldCaseCardSaid : Prop := Claim7.holds Tryd.pinned (.plain (OpenSpec.ofChange fnFoldCaseSpec)) fnFoldCaseCard

/-- THE TIED CARD OF 'laws.FnTitleJoin'. -/
def fnTitleJoinCard : Claim7 := { stood := { row := fnTitleJoinRow, standIns := [], harness := (true, "44149fb022992a9e94bc56ad6a4357e43f7b6927431f6237615d53d05ae4f707"), looks := false }, kinds := [], alts := [], laidByText := true, laidKinds := [.data, .data, .pinned, .pinned, .pinned], laidTests := true, laidLooks := .later }
def FnTitleJoinCardSaid : Prop := Claim7.holds Tryd.pinned (.plain (OpenSpec.ofChange fnTitleJoinSpec)) fnTitleJoinCard

/-- THE TIED CARD OF 'laws.FnExactToTitle'. -/
def fnExactToTitleCard : Claim7 := { stood := { row := fnExactToTitleRow, standIns := [], harness := (true, "44149fb022992a9e94bc56ad6a4357e43f7b6927431f6237615d53d05ae4f707"), looks := false }, kinds := [], alts := [], laidByText := true, laidKinds := [.data, .data, .pinned, .pinned, .pinned], laidTests := true, laidLooks := .later }
def FnExactToTitleCardSaid : Prop := Claim7.holds Tryd.pinned (.plain (OpenSpec.ofChange fnExactToTitleSpec)) fnExactToTitleCard

/-- THE TIED CARD OF 'laws.FnCaseJoin'. -/
def fnCaseJoinCard : Claim7 := { stood := { row := fnCaseJoinRow, standIns := [], harness := (true, "44149fb022992a9e94bc56ad6a4357e43f7b6927431f6237615d53d05ae4f707"), looks := false }, kinds := [], alts := [], laidByText := true, laidKinds := [.data, .pinned, .pinned], laidTests := true, laidLooks := .later }
def FnCaseJoinCardSaid : Prop := Claim7.holds Tryd.pinned (.plain (OpenSpec.ofChange fnCaseJoinSpec)) fnCaseJoinCard

/-- THE TIED CARD OF 'laws.FnTitleMap'. -/
def fnTitleMapCard : Claim7 := { stood := { row := fnTitleMapRow, standIns := [], harness := (true, "44149fb022992a9e94bc56ad6a4357e43f7b6927431f6237615d53d05ae4f707"), looks := false }, kinds := [], alts := [], laidByText := true, laidKinds := [.data, .data, .pinned, .pinned, .pinned], laidTests := true, laidLooks := .later }
def FnTitleMapCardSaid : Prop := Claim7.holds Tryd.pinned (.plain (OpenSpec.ofChange fnTitleMapSpec)) fnTitleMapCard

/-- THE TIED CARD OF 'laws.FnExactToLower'. -/
def fnExactToLowerCard : Claim7 := { stood := { row := fnExactToLowerRow, standIns := [], harness := (true, "44149fb022992a9e94bc56ad6a4357e43f7b6927431f6237615d53d05ae4f707"), looks := false }, kinds := [], alts := [], laidByText := true, laidKinds := [.data, .data, .pinned, .pinned, .pinned], laidTests := true, laidLooks := .later }
def FnExactToLowerCardSaid : Prop := Claim7.holds Tryd.pinned (.plain (OpenSpec.ofChange fnExactToLowerSpec)) fnExactToLowerCard

/-- THE TIED CARD OF 'laws.FnExactToUpper'. -/
def fnExactToUpperCard : Claim7 := { stood := { row := fnExactToUpperRow, standIns := [], harness := (true, "44149fb022992a9e94bc56ad6a4357e43f7b6927431f6237615d53d05ae4f707"), looks := false }, kinds := [], alts := [], laidByText := true, laidKinds := [.data, .data, .pinned, .pinned, .pinned], laidTests := true, laidLooks := .later }
def FnExactToUpperCardSaid : Prop := Claim7.holds Tryd.pinned (.plain (OpenSpec.ofChange fnExactToUpperSpec)) fnExactToUpperCard

/-- THE TIED CARD OF 'laws.FnRuneText'. -/
def fnRuneTextCard : Claim7 := { stood := { row := fnRuneTextRow, standIns := [], harness := (true, "44149fb022992a9e94bc56ad6a4357e43f7b6927431f6237615d53d05ae4f707"), looks := false }, kinds := [], alts := [], laidByText := true, laidKinds := [.data, .data, .pinned, .pinned, .pinned], laidTests := true, laidLooks := .later }
def FnRuneTextCardSaid : Prop := Claim7.holds Tryd.pinned (.plain (OpenSpec.ofChange fnRuneTextSpec)) fnRuneTextCard

/-- THE SECOND FORM's CARD OF 'laws.FnFoldCase'. -/
def fnFoldCaseUptoCard : Claim7 := { stood := { row := fnFoldCaseUptoRow, standIns := [], harness := (true, "44149fb022992a9e94bc56ad6a4357e43f7b6927431f6237615d53d05ae4f707"), looks := false }, kinds := [], alts := [], laidByText := true, laidKinds := [.data, .data, .data, .pinned, .pinned], laidTests := true, laidLooks := .later }
def FnFoldCaseUptoCardSaid : Prop := Claim7.holds Tryd.pinned (.plain (OpenSpec.upto fnFoldCaseSpec)) fnFoldCaseUptoCard

/-- THE SECOND FORM's CARD OF 'laws.FnTitleJoin'. -/
def fnTitleJoinUptoCard : Claim7 := { stood := { row := fnTitleJoinUptoRow, standIns := [], harness := (true, "44149fb022992a9e94bc56ad6a4357e43f7b6927431f6237615d53d05ae4f707"), looks := false }, kinds := [], alts := [], laidByText := true, laidKinds := [.data, .data, .pinned, .pinned, .pinned], laidTests := true, laidLooks := .later }
def FnTitleJoinUptoCardSaid : Prop := Claim7.holds Tryd.pinned (.plain (OpenSpec.upto fnTitleJoinSpec)) fnTitleJoinUptoCard

/-- THE SECOND FORM's CARD OF 'laws.FnExactToTitle'. -/
def fnExactToTitleUptoCard : Claim7 := { stood := { row := fnExactToTitleUptoRow, standIns := [], harness := (true, "44149fb022992a9e94bc56ad6a4357e43f7b6927431f6237615d53d05ae4f707"), looks := false }, kinds := [], alts := [], laidByText := true, laidKinds := [.data, .data, .pinned, .pinned, .pinned], laidTests := true, laidLooks := .later }
def FnExactToTitleUptoCardSaid : Prop := Claim7.holds Tryd.pinned (.plain (OpenSpec.upto fnExactToTitleSpec)) fnExactToTitleUptoCard

/-- THE SECOND FORM's CARD OF 'laws.FnCaseJoin'. -/
def fnCaseJoinUptoCard : Claim7 := { stood := { row := fnCaseJoinUptoRow, standIns := [], harness := (true, "44149fb022992a9e94bc56ad6a4357e43f7b6927431f6237615d53d05ae4f707"), looks := false }, kinds := [], alts := [], laidByText := true, laidKinds := [.data, .pinned, .pinned], laidTests := true, laidLooks := .later }
def FnCaseJoinUptoCardSaid : Prop := Claim7.holds Tryd.pinned (.plain (OpenSpec.upto fnCaseJoinSpec)) fnCaseJoinUptoCard

/-- THE SECOND FORM's CARD OF 'laws.FnTitleMap'. -/
def fnTitleMapUptoCard : Claim7 := { stood := { row := fnTitleMapUptoRow, standIns := [], harness := (true, "44149fb022992a9e94bc56ad6a4357e43f7b6927431f6237615d53d05ae4f707"), looks := false }, kinds := [], alts := [], laidByText := true, laidKinds := [.data, .data, .pinned, .pinned, .pinned], laidTests := true, laidLooks := .later }
def FnTitleMapUptoCardSaid : Prop := Claim7.holds Tryd.pinned (.plain (OpenSpec.upto fnTitleMapSpec)) fnTitleMapUptoCard

/-- THE SECOND FORM's CARD OF 'laws.FnExactToLower'. -/
def fnExactToLowerUptoCard : Claim7 := { stood := { row := fnExactToLowerUptoRow, standIns := [], harness := (true, "44149fb022992a9e94bc56ad6a4357e43f7b6927431f6237615d53d05ae4f707"), looks := false }, kinds := [], alts := [], laidByText := true, laidKinds := [.data, .data, .pinned, .pinned, .pinned], laidTests := true, laidLooks := .later }
def FnExactToLowerUptoCardSaid : Prop := Claim7.holds Tryd.pinned (.plain (OpenSpec.upto fnExactToLowerSpec)) fnExactToLowerUptoCard

/-- THE SECOND FORM's CARD OF 'laws.FnExactToUpper'. -/
def fnExactToUpperUptoCard : Claim7 := { stood := { row := fnExactToUpperUptoRow, standIns := [], harness := (true, "44149fb022992a9e94bc56ad6a4357e43f7b6927431f6237615d53d05ae4f707"), looks := false }, kinds := [], alts := [], laidByText := true, laidKinds := [.data, .data, .pinned, .pinned, .pinned], laidTests := true, laidLooks := .later }
def FnExactToUpperUptoCardSaid : Prop := Claim7.holds Tryd.pinned (.plain (OpenSpec.upto fnExactToUpperSpec)) fnExactToUpperUptoCard

/-- THE SECOND FORM's CARD OF 'laws.FnRuneText'. -/
def fnRuneTextUptoCard : Claim7 := { stood := { row := fnRuneTextUptoRow, standIns := [], harness := (true, "44149fb022992a9e94bc56ad6a4357e43f7b6927431f6237615d53d05ae4f707"), looks := false }, kinds := [], alts := [], laidByText := true, laidKinds := [.data, .data, .pinned, .pinned, .pinned], laidTests := true, laidLooks := .later }
def FnRuneTextUptoCardSaid : Prop := Claim7.holds Tryd.pinned (.plain (OpenSpec.upto fnRuneTextSpec)) fnRuneTextUptoCard
end Rows
end Go.Proofs.YtnlbeljdlmgclaaDoor
