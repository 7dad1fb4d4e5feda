/-
  DERIVED. GIVEN WITH THE SEED: THE CARDS: each row of YtjcbhnnlakfmaaaDoorRows.lean that lists a variable, with what it lists TIED to the program's text (the seventh form; the later family's looks); each row that meets fmt, with fmt's text TOLD by the authors' own Lean function (tested against real Go, not proved from fmt's source: count such statements apart). THE CARD IS WHAT COUNTS. Prove the row's statement (the work); the ties are given (YtjcbhnnlakfmaaaDoorTie.lean); close each card by the builder's one call (the guide's Derived/Test/ToyasCard.lean, 'card_holds'). Laid BY PROGRAM, IN A SANDBOX (cutbox-door.mjs). By AI agents, Wed Nov 11 2026. No macro, syntax, notation, axiom, sorry.
-/
import Derived.Test.YtjcbhnnlakfmaaaDoorRows
import GoSem.ClaimSeven
namespace Go.Proofs.YtjcbhnnlakfmaaaDoor
namespace Rows

/-- THE TIED CARD OF 'laws.FnMapTwice'. -/
def fnMapTwiceCard : Claim7 := { stood := { row := fnMapTwiceRow, standIns := [], harness := (true, "348e16fb2b4f5c11832868075705db6f90df6b6dcbf4fb0926e87941b2c86fdd"), looks := false }, kinds := [], alts := [], laidByText := true, laidKinds := [.data, .pinned], laidTests := true, laidLooks := .later }
def FnMapTwiceCardSaid : Prop := Claim7.holds Tryd.pinned (.plain (OpenSpec.ofChange fnMapTwiceSpec)) fnMapTwiceCard

/-- THE TIED CARD OF 'laws.FnBytesAgreeAny'. -/
def fnBytesAgreeAnyCard : Claim7 := { stood := { row := fnBytesAgreeAnyRow, standIns := [], harness := (true, "348e16fb2b4f5c11832868075705db6f90df6b6dcbf4fb0926e87941b2c86fdd"), looks := false }, kinds := [], alts := [], laidByText := true, laidKinds := [.data, .data, .data, .pinned, .pinned], laidTests := true, laidLooks := .later }
def FnBytesAgreeAnyCardSaid : Prop := Claim7.holds Tryd.pinned (.plain (OpenSpec.ofChange fnBytesAgreeAnySpec)) fnBytesAgreeAnyCard

/-- THE TIED CARD OF 'laws.FnBytesAgree'. -/
def fnBytesAgreeCard : Claim7 := { stood := { row := fnBytesAgreeRow, standIns := [], harness := (true, "348e16fb2b4f5c11832868075705db6f90df6b6dcbf4fb0926e87941b2c86fdd"), looks := false }, kinds := [], alts := [], laidByText := true, laidKinds := [.data, .data, .data, .pinned, .pinned], laidTests := true, laidLooks := .later }
def FnBytesAgreeCardSaid : Prop := Claim7.holds Tryd.pinned (.plain (OpenSpec.ofChange fnBytesAgreeSpec)) fnBytesAgreeCard

/-- THE TIED CARD OF 'laws.FnExactToTitleBytes'. -/
def fnExactToTitleBytesCard : Claim7 := { stood := { row := fnExactToTitleBytesRow, standIns := [], harness := (true, "348e16fb2b4f5c11832868075705db6f90df6b6dcbf4fb0926e87941b2c86fdd"), looks := false }, kinds := [], alts := [], laidByText := true, laidKinds := [.data, .data, .pinned, .pinned, .pinned], laidTests := true, laidLooks := .later }
def FnExactToTitleBytesCardSaid : Prop := Claim7.holds Tryd.pinned (.plain (OpenSpec.ofChange fnExactToTitleBytesSpec)) fnExactToTitleBytesCard

/-- THE TIED CARD OF 'laws.FnExactToLowerBytes'. -/
def fnExactToLowerBytesCard : Claim7 := { stood := { row := fnExactToLowerBytesRow, standIns := [], harness := (true, "348e16fb2b4f5c11832868075705db6f90df6b6dcbf4fb0926e87941b2c86fdd"), looks := false }, kinds := [], alts := [], laidByText := true, laidKinds := [.data, .data, .pinned, .pinned, .pinned], laidTests := true, laidLooks := .later }
def FnExactToLowerBytesCardSaid : Prop := Claim7.holds Tryd.pinned (.plain (OpenSpec.ofChange fnExactToLowerBytesSpec)) fnExactToLowerBytesCard

/-- THE TIED CARD OF 'laws.FnExactToUpperBytes'. -/
def fnExactToUpperBytesCard : Claim7 := { stood := { row := fnExactToUpperBytesRow, standIns := [], harness := (true, "348e16fb2b4f5c11832868075705db6f90df6b6dcbf4fb0926e87941b2c86fdd"), looks := false }, kinds := [], alts := [], laidByText := true, laidKinds := [.data, .data, .pinned, .pinned, .pinned], laidTests := true, laidLooks := .later }
def FnExactToUpperBytesCardSaid : Prop := Claim7.holds Tryd.pinned (.plain (OpenSpec.ofChange fnExactToUpperBytesSpec)) fnExactToUpperBytesCard

/-- THE TIED CARD OF 'laws.FnTitleAscii'. -/
def fnTitleAsciiCard : Claim7 := { stood := { row := fnTitleAsciiRow, standIns := [], harness := (true, "348e16fb2b4f5c11832868075705db6f90df6b6dcbf4fb0926e87941b2c86fdd"), looks := false }, kinds := [], alts := [], laidByText := true, laidKinds := [.data, .pinned, .pinned], laidTests := true, laidLooks := .later }
def FnTitleAsciiCardSaid : Prop := Claim7.holds Tryd.pinned (.plain (OpenSpec.ofChange fnTitleAsciiSpec)) fnTitleAsciiCard

/-- THE TIED CARD OF 'laws.FnBytesKept'. -/
def fnBytesKeptCard : Claim7 := { stood := { row := fnBytesKeptRow, standIns := [], harness := (true, "348e16fb2b4f5c11832868075705db6f90df6b6dcbf4fb0926e87941b2c86fdd"), looks := false }, kinds := [], alts := [], laidByText := true, laidKinds := [.data, .pinned, .pinned], laidTests := true, laidLooks := .later }
def FnBytesKeptCardSaid : Prop := Claim7.holds Tryd.pinned (.plain (OpenSpec.ofChange fnBytesKeptSpec)) fnBytesKeptCard

/-- THE TIED CARD OF 'laws.FnMapFold'. -/
def fnMapFoldCard : Claim7 := { stood := { row := fnMapFoldRow, standIns := [], harness := (true, "348e16fb2b4f5c11832868075705db6f90df6b6dcbf4fb0926e87941b2c86fdd"), looks := false }, kinds := [], alts := [], laidByText := true, laidKinds := [.data, .data, .data, .pinned, .pinned], laidTests := true, laidLooks := .later }
def FnMapFoldCardSaid : Prop := Claim7.holds Tryd.pinned (.plain (OpenSpec.ofChange fnMapFoldSpec)) fnMapFoldCard

/-- THE SECOND FORM's CARD OF 'laws.FnMapTwice'. -/
def fnMapTwiceUptoCard : Claim7 := { stood := { row := fnMapTwiceUptoRow, standIns := [], harness := (true, "348e16fb2b4f5c11832868075705db6f90df6b6dcbf4fb0926e87941b2c86fdd"), looks := false }, kinds := [], alts := [], laidByText := true, laidKinds := [.data, .pinned], laidTests := true, laidLooks := .later }
def FnMapTwiceUptoCardSaid : Prop := Claim7.holds Tryd.pinned (.plain (OpenSpec.upto fnMapTwiceSpec)) fnMapTwiceUptoCard

/-- THE SECOND FORM's CARD OF 'laws.FnBytesAgreeAny'. -/
def fnBytesAgreeAnyUptoCard : Claim7 := { stood := { row := fnBytesAgreeAnyUptoRow, standIns := [], harness := (true, "348e16fb2b4f5c11832868075705db6f90df6b6dcbf4fb0926e87941b2c86fdd"), looks := false }, kinds := [], alts := [], laidByText := true, laidKinds := [.data, .data, .data, .pinned, .pinned], laidTests := true, laidLooks := .later }
def FnBytesAgreeAnyUptoCardSaid : Prop := Claim7.holds Tryd.pinned (.plain (OpenSpec.upto fnBytesAgreeAnySpec)) fnBytesAgreeAnyUptoCard

/-- THE SECOND FORM's CARD OF 'laws.FnBytesAgree'. -/
def fnBytesAgreeUptoCard : Claim7 := { stood := { row := fnBytesAgreeUptoRow, standIns := [], harness := (true, "348e16fb2b4f5c11832868075705db6f90df6b6dcbf4fb0926e87941b2c86fdd"), looks := false }, kinds := [], alts := [], laidByText := true, laidKinds := [.data, .data, .data, .pinned, .pinned], laidTests := true, laidLooks := .later }
def FnBytesAgreeUptoCardSaid : Prop := Claim7.holds Tryd.pinned (.plain (OpenSpec.upto fnBytesAgreeSpec)) fnBytesAgreeUptoCard

/-- THE SECOND FORM's CARD OF 'laws.FnExactToTitleBytes'. -/
def fnExactToTitleBytesUptoCard : Claim7 := { stood := { row := fnExactToTitleBytesUptoRow, standIns := [], harness := (true, "348e16fb2b4f5c11832868075705db6f90df6b6dcbf4fb0926e87941b2c86fdd"), looks := false }, kinds := [], alts := [], laidByText := true, laidKinds := [.data, .data, .pinned, .pinned, .pinned], laidTests := true, laidLooks := .later }
def FnExactToTitleBytesUptoCardSaid : Prop := Claim7.holds Tryd.pinned (.plain (OpenSpec.upto fnExactToTitleBytesSpec)) fnExactToTitleBytesUptoCard

/-- THE SECOND FORM's CARD OF 'laws.FnExactToLowerBytes'. -/
def fnExactToLowerBytesUptoCard : Claim7 := { stood := { row := fnExactToLowerBytesUptoRow, standIns := [], harness := (true, "348e16fb2b4f5c11832868075705db6f90df6b6dcbf4fb0926e87941b2c86fdd"), looks := false }, kinds := [], alts := [], laidByText := true, laidKinds := [.data, .data, .pinned, .pinned, .pinned], laidTests := true, laidLooks := .later }
def FnExactToLowerBytesUptoCardSaid : Prop := Claim7.holds Tryd.pinned (.plain (OpenSpec.upto fnExactToLowerBytesSpec)) fnExactToLowerBytesUptoCard

/-- THE SECOND FORM's CARD OF 'laws.FnExactToUpperBytes'. -/
def fnExactToUpperBytesUptoCard : Claim7 := { stood := { row := fnExactToUpperBytesUptoRow, standIns := [], harness := (true, "348e16fb2b4f5c11832868075705db6f90df6b6dcbf4fb0926e87941b2c86fdd"), looks := false }, kinds := [], alts := [], laidByText := true, laidKinds := [.data, .data, .pinned, .pinned, .pinned], laidTests := true, laidLooks := .later }
def FnExactToUpperBytesUptoCardSaid : Prop := Claim7.holds Tryd.pinned (.plain (OpenSpec.upto fnExactToUpperBytesSpec)) fnExactToUpperBytesUptoCard

/-- THE SECOND FORM's CARD OF 'laws.FnTitleAscii'. -/
def fnTitleAsciiUptoCard : Claim7 := { stood := { row := fnTitleAsciiUptoRow, standIns := [], harness := (true, "348e16fb2b4f5c11832868075705db6f90df6b6dcbf4fb0926e87941b2c86fdd"), looks := false }, kinds := [], alts := [], laidByText := true, laidKinds := [.data, .pinned, .pinned], laidTests := true, laidLooks := .later }
def FnTitleAsciiUptoCardSaid : Prop := Claim7.holds Tryd.pinned (.plain (OpenSpec.upto fnTitleAsciiSpec)) fnTitleAsciiUptoCard

/-- THE SECOND FORM's CARD OF 'laws.FnBytesKept'. -/
def fnBytesKeptUptoCard : Claim7 := { stood := { row := fnBytesKeptUptoRow, standIns := [], harness := (true, "348e16fb2b4f5c11832868075705db6f90df6b6dcbf4fb0926e87941b2c86fdd"), looks := false }, kinds := [], alts := [], laidByText := true, laidKinds := [.data, .pinned, .pinned], laidTests := true, laidLooks := .later }
def FnBytesKeptUptoCardSaid : Prop := Claim7.holds Tryd.pinned (.plain (OpenSpec.upto fnBytesKeptSpec)) fnBytesKeptUptoCard

/-- THE SECOND FORM's CARD OF 'laws.FnMapFold'. -/
def fnMapFoldUptoCard : Claim7 := { stood := { row := fnMapFoldUptoRow, standIns := [], harness := (true, "348e16fb2b4f5c11832868075705db6f90df6b6dcbf4fb0926e87941b2c86fdd"), looks := false }, kinds := [], alts := [], laidByText := true, laidKinds := [.data, .data, .data, .pinned, .pinned], laidTests := true, laidLooks := .later }
def FnMapFoldUptoCardSaid : Prop := Claim7.holds Tryd.pinned (.plain (OpenSpec.upto fnMapFoldSpec)) fnMapFoldUptoCard
end Rows
end Go.Proofs.YtjcbhnnlakfmaaaDoor
