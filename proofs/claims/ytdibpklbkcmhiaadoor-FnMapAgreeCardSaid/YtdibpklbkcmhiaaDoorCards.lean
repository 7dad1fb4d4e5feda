/-
  DERIVED. GIVEN WITH THE SEED: THE CARDS: each row of YtdibpklbkcmhiaaDoorRows.lean that lists a variable, with what it lists TIED to the program's text (the seventh form; the later family's looks); each row that meets fmt, with fmt's text TOLD by the authors' own Lean function (tested against real Go, not proved from fmt's source: count such statements apart). THE CARD IS WHAT COUNTS. Prove the row's statement (the work); the ties are given (YtdibpklbkcmhiaaDoorTie.lean); close each card by the builder's one call (the guide's Derived/Test/ToyasCard.lean, 'card_holds'). Laid BY PROGRAM, IN A SANDBOX (cutbox-door.mjs). By AI agents, Wed Nov 11 2026. No macro, syntax, notation, axiom, sorry.
-/
import Derived.Test.YtdibpklbkcmhiaaDoorRows
import GoSem.ClaimSeven
namespace Go.Proofs.YtdibpklbkcmhiaaDoor
namespace Rows

/-- THE TIED CARD OF 'laws.FnExactMapBytes'. -/
def fnExactMapBytesCard : Claim7 := { stood := { row := fnExactMapBytesRow, standIns := [], harness := (true, "5fb5f4013eb0fb80bbacf0122ab78706401401f24c09bccce0950ab03c15dcb6"), looks := false }, kinds := [], alts := [], laidByText := true, laidKinds := [.data, .pinned], laidTests := true, laidLooks := .later }
def FnExactMapBytesCardSaid : Prop := Claim7.holds Tryd.pinned (.plain (OpenSpec.ofChange fnExactMapBytesSpec)) fnExactMapBytesCard

/-- THE TIED CARD OF 'laws.FnExactMapBytesValid'. -/
def fnExactMapBytesValidCard : Claim7 := { stood := { row := fnExactMapBytesValidRow, standIns := [], harness := (true, "5fb5f4013eb0fb80bbacf0122ab78706401401f24c09bccce0950ab03c15dcb6"), looks := false }, kinds := [], alts := [], laidByText := true, laidKinds := [.data, .pinned], laidTests := true, laidLooks := .later }
def FnExactMapBytesValidCardSaid : Prop := Claim7.holds Tryd.pinned (.plain (OpenSpec.ofChange fnExactMapBytesValidSpec)) fnExactMapBytesValidCard

/-- THE TIED CARD OF 'laws.FnExactMap'. -/
def fnExactMapCard : Claim7 := { stood := { row := fnExactMapRow, standIns := [], harness := (true, "5fb5f4013eb0fb80bbacf0122ab78706401401f24c09bccce0950ab03c15dcb6"), looks := false }, kinds := [], alts := [], laidByText := true, laidKinds := [.data, .pinned], laidTests := true, laidLooks := .later }
def FnExactMapCardSaid : Prop := Claim7.holds Tryd.pinned (.plain (OpenSpec.ofChange fnExactMapSpec)) fnExactMapCard

/-- THE TIED CARD OF 'laws.FnMapKeep'. -/
def fnMapKeepCard : Claim7 := { stood := { row := fnMapKeepRow, standIns := [], harness := (true, "5fb5f4013eb0fb80bbacf0122ab78706401401f24c09bccce0950ab03c15dcb6"), looks := false }, kinds := [], alts := [], laidByText := true, laidKinds := [.data, .pinned], laidTests := true, laidLooks := .later }
def FnMapKeepCardSaid : Prop := Claim7.holds Tryd.pinned (.plain (OpenSpec.ofChange fnMapKeepSpec)) fnMapKeepCard

/-- THE TIED CARD OF 'laws.FnExactMapValid'. -/
def fnExactMapValidCard : Claim7 := { stood := { row := fnExactMapValidRow, standIns := [], harness := (true, "5fb5f4013eb0fb80bbacf0122ab78706401401f24c09bccce0950ab03c15dcb6"), looks := false }, kinds := [], alts := [], laidByText := true, laidKinds := [.data, .pinned], laidTests := true, laidLooks := .later }
def FnExactMapValidCardSaid : Prop := Claim7.holds Tryd.pinned (.plain (OpenSpec.ofChange fnExactMapValidSpec)) fnExactMapValidCard

/-- THE TIED CARD OF 'laws.FnMapJoin'. -/
def fnMapJoinCard : Claim7 := { stood := { row := fnMapJoinRow, standIns := [], harness := (true, "5fb5f4013eb0fb80bbacf0122ab78706401401f24c09bccce0950ab03c15dcb6"), looks := false }, kinds := [], alts := [], laidByText := true, laidKinds := [.data, .pinned], laidTests := true, laidLooks := .later }
def FnMapJoinCardSaid : Prop := Claim7.holds Tryd.pinned (.plain (OpenSpec.ofChange fnMapJoinSpec)) fnMapJoinCard

/-- THE TIED CARD OF 'laws.FnMapLen'. -/
def fnMapLenCard : Claim7 := { stood := { row := fnMapLenRow, standIns := [], harness := (true, "5fb5f4013eb0fb80bbacf0122ab78706401401f24c09bccce0950ab03c15dcb6"), looks := false }, kinds := [], alts := [], laidByText := true, laidKinds := [.data, .pinned], laidTests := true, laidLooks := .later }
def FnMapLenCardSaid : Prop := Claim7.holds Tryd.pinned (.plain (OpenSpec.ofChange fnMapLenSpec)) fnMapLenCard

/-- THE TIED CARD OF 'laws.FnMapTwice'. -/
def fnMapTwiceCard : Claim7 := { stood := { row := fnMapTwiceRow, standIns := [], harness := (true, "5fb5f4013eb0fb80bbacf0122ab78706401401f24c09bccce0950ab03c15dcb6"), looks := false }, kinds := [], alts := [], laidByText := true, laidKinds := [.data, .pinned], laidTests := true, laidLooks := .later }
def FnMapTwiceCardSaid : Prop := Claim7.holds Tryd.pinned (.plain (OpenSpec.ofChange fnMapTwiceSpec)) fnMapTwiceCard

/-- THE TIED CARD OF 'laws.FnMapAgree'. -/
def fnMapAgreeCard : Claim7 := { stood := { row := fnMapAgreeRow, standIns := [], harness := (true, "5fb5f4013eb0fb80bbacf0122ab78706401401f24c09bccce0950ab03c15dcb6"), looks := false }, kinds := [], alts := [], laidByText := true, laidKinds := [.data, .pinned], laidTests := true, laidLooks := .later }
def FnMapAgreeCardSaid : Prop := Claim7.holds Tryd.pinned (.plain (OpenSpec.ofChange fnMapAgreeSpec)) fnMapAgreeCard

/-- THE SECOND FORM's CARD OF 'laws.FnExactMapBytes'. -/
def fnExactMapBytesUptoCard : Claim7 := { stood := { row := fnExactMapBytesUptoRow, standIns := [], harness := (true, "5fb5f4013eb0fb80bbacf0122ab78706401401f24c09bccce0950ab03c15dcb6"), looks := false }, kinds := [], alts := [], laidByText := true, laidKinds := [.data, .pinned], laidTests := true, laidLooks := .later }
def FnExactMapBytesUptoCardSaid : Prop := Claim7.holds Tryd.pinned (.plain (OpenSpec.upto fnExactMapBytesSpec)) fnExactMapBytesUptoCard

/-- THE SECOND FORM's CARD OF 'laws.FnExactMapBytesValid'. -/
def fnExactMapBytesValidUptoCard : Claim7 := { stood := { row := fnExactMapBytesValidUptoRow, standIns := [], harness := (true, "5fb5f4013eb0fb80bbacf0122ab78706401401f24c09bccce0950ab03c15dcb6"), looks := false }, kinds := [], alts := [], laidByText := true, laidKinds := [.data, .pinned], laidTests := true, laidLooks := .later }
def FnExactMapBytesValidUptoCardSaid : Prop := Claim7.holds Tryd.pinned (.plain (OpenSpec.upto fnExactMapBytesValidSpec)) fnExactMapBytesValidUptoCard

/-- THE SECOND FORM's CARD OF 'laws.FnExactMap'. -/
def fnExactMapUptoCard : Claim7 := { stood := { row := fnExactMapUptoRow, standIns := [], harness := (true, "5fb5f4013eb0fb80bbacf0122ab78706401401f24c09bccce0950ab03c15dcb6"), looks := false }, kinds := [], alts := [], laidByText := true, laidKinds := [.data, .pinned], laidTests := true, laidLooks := .later }
def FnExactMapUptoCardSaid : Prop := Claim7.holds Tryd.pinned (.plain (OpenSpec.upto fnExactMapSpec)) fnExactMapUptoCard

/-- THE SECOND FORM's CARD OF 'laws.FnMapKeep'. -/
def fnMapKeepUptoCard : Claim7 := { stood := { row := fnMapKeepUptoRow, standIns := [], harness := (true, "5fb5f4013eb0fb80bbacf0122ab78706401401f24c09bccce0950ab03c15dcb6"), looks := false }, kinds := [], alts := [], laidByText := true, laidKinds := [.data, .pinned], laidTests := true, laidLooks := .later }
def FnMapKeepUptoCardSaid : Prop := Claim7.holds Tryd.pinned (.plain (OpenSpec.upto fnMapKeepSpec)) fnMapKeepUptoCard

/-- THE SECOND FORM's CARD OF 'laws.FnExactMapValid'. -/
def fnExactMapValidUptoCard : Claim7 := { stood := { row := fnExactMapValidUptoRow, standIns := [], harness := (true, "5fb5f4013eb0fb80bbacf0122ab78706401401f24c09bccce0950ab03c15dcb6"), looks := false }, kinds := [], alts := [], laidByText := true, laidKinds := [.data, .pinned], laidTests := true, laidLooks := .later }
def FnExactMapValidUptoCardSaid : Prop := Claim7.holds Tryd.pinned (.plain (OpenSpec.upto fnExactMapValidSpec)) fnExactMapValidUptoCard

/-- THE SECOND FORM's CARD OF 'laws.FnMapJoin'. -/
def fnMapJoinUptoCard : Claim7 := { stood := { row := fnMapJoinUptoRow, standIns := [], harness := (true, "5fb5f4013eb0fb80bbacf0122ab78706401401f24c09bccce0950ab03c15dcb6"), looks := false }, kinds := [], alts := [], laidByText := true, laidKinds := [.data, .pinned], laidTests := true, laidLooks := .later }
def FnMapJoinUptoCardSaid : Prop := Claim7.holds Tryd.pinned (.plain (OpenSpec.upto fnMapJoinSpec)) fnMapJoinUptoCard

/-- THE SECOND FORM's CARD OF 'laws.FnMapLen'. -/
def fnMapLenUptoCard : Claim7 := { stood := { row := fnMapLenUptoRow, standIns := [], harness := (true, "5fb5f4013eb0fb80bbacf0122ab78706401401f24c09bccce0950ab03c15dcb6"), looks := false }, kinds := [], alts := [], laidByText := true, laidKinds := [.data, .pinned], laidTests := true, laidLooks := .later }
def FnMapLenUptoCardSaid : Prop := Claim7.holds Tryd.pinned (.plain (OpenSpec.upto fnMapLenSpec)) fnMapLenUptoCard

/-- THE SECOND FORM's CARD OF 'laws.FnMapTwice'. -/
def fnMapTwiceUptoCard : Claim7 := { stood := { row := fnMapTwiceUptoRow, standIns := [], harness := (true, "5fb5f4013eb0fb80bbacf0122ab78706401401f24c09bccce0950ab03c15dcb6"), looks := false }, kinds := [], alts := [], laidByText := true, laidKinds := [.data, .pinned], laidTests := true, laidLooks := .later }
def FnMapTwiceUptoCardSaid : Prop := Claim7.holds Tryd.pinned (.plain (OpenSpec.upto fnMapTwiceSpec)) fnMapTwiceUptoCard

/-- THE SECOND FORM's CARD OF 'laws.FnMapAgree'. -/
def fnMapAgreeUptoCard : Claim7 := { stood := { row := fnMapAgreeUptoRow, standIns := [], harness := (true, "5fb5f4013eb0fb80bbacf0122ab78706401401f24c09bccce0950ab03c15dcb6"), looks := false }, kinds := [], alts := [], laidByText := true, laidKinds := [.data, .pinned], laidTests := true, laidLooks := .later }
def FnMapAgreeUptoCardSaid : Prop := Claim7.holds Tryd.pinned (.plain (OpenSpec.upto fnMapAgreeSpec)) fnMapAgreeUptoCard
end Rows
end Go.Proofs.YtdibpklbkcmhiaaDoor
