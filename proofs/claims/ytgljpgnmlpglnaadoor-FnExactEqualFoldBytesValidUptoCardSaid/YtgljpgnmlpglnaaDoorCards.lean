/-
  DERIVED. GIVEN WITH THE SEED: THE CARDS: each row of YtgljpgnmlpglnaaDoorRows.lean that lists a variable, with what it lists TIED to the program's text (the seventh form; the later family's looks); each row that meets fmt, with fmt's text TOLD by the authors' own Lean function (tested against real Go, not proved from fmt's source: count such statements apart). THE CARD IS WHAT COUNTS. Prove the row's statement (the work); the ties are given (YtgljpgnmlpglnaaDoorTie.lean); close each card by the builder's one call (the guide's Derived/Test/ToyasCard.lean, 'card_holds'). Laid BY PROGRAM, IN A SANDBOX (cutbox-door.mjs). By AI agents, Wed Nov 11 2026. No macro, syntax, notation, axiom, sorry.
-/
import Derived.Test.YtgljpgnmlpglnaaDoorRows
import GoSem.ClaimSeven
namespace Go.Proofs.YtgljpgnmlpglnaaDoor
namespace Rows

/-- THE TIED CARD OF 'laws.FnFoldSelf'. -/
def fnFoldSelfCard : Claim7 := { stood := { row := fnFoldSelfRow, standIns := [], harness := (true, "07c0c3c760e7f1c208df6165a28f7d928edbedad562ae33623352b7955ca54e8"), looks := false }, kinds := [], alts := [], laidByText := true, laidKinds := [.data, .data, .data, .pinned, .pinned], laidTests := true, laidLooks := .later }
def FnFoldSelfCardSaid : Prop := Claim7.holds Tryd.pinned (.plain (OpenSpec.ofChange fnFoldSelfSpec)) fnFoldSelfCard

/-- THE TIED CARD OF 'laws.FnFoldTurned'. -/
def fnFoldTurnedCard : Claim7 := { stood := { row := fnFoldTurnedRow, standIns := [], harness := (true, "07c0c3c760e7f1c208df6165a28f7d928edbedad562ae33623352b7955ca54e8"), looks := false }, kinds := [], alts := [], laidByText := true, laidKinds := [.data, .data, .data, .pinned, .pinned], laidTests := true, laidLooks := .later }
def FnFoldTurnedCardSaid : Prop := Claim7.holds Tryd.pinned (.plain (OpenSpec.ofChange fnFoldTurnedSpec)) fnFoldTurnedCard

/-- THE TIED CARD OF 'laws.FnFoldAscii'. -/
def fnFoldAsciiCard : Claim7 := { stood := { row := fnFoldAsciiRow, standIns := [], harness := (true, "07c0c3c760e7f1c208df6165a28f7d928edbedad562ae33623352b7955ca54e8"), looks := false }, kinds := [], alts := [], laidByText := true, laidKinds := [.data, .data, .data, .pinned, .pinned], laidTests := true, laidLooks := .later }
def FnFoldAsciiCardSaid : Prop := Claim7.holds Tryd.pinned (.plain (OpenSpec.ofChange fnFoldAsciiSpec)) fnFoldAsciiCard

/-- THE TIED CARD OF 'laws.FnFoldLonger'. -/
def fnFoldLongerCard : Claim7 := { stood := { row := fnFoldLongerRow, standIns := [], harness := (true, "07c0c3c760e7f1c208df6165a28f7d928edbedad562ae33623352b7955ca54e8"), looks := false }, kinds := [], alts := [], laidByText := true, laidKinds := [.data, .data, .data, .pinned, .pinned], laidTests := true, laidLooks := .later }
def FnFoldLongerCardSaid : Prop := Claim7.holds Tryd.pinned (.plain (OpenSpec.ofChange fnFoldLongerSpec)) fnFoldLongerCard

/-- THE TIED CARD OF 'laws.FnFoldJoin'. -/
def fnFoldJoinCard : Claim7 := { stood := { row := fnFoldJoinRow, standIns := [], harness := (true, "07c0c3c760e7f1c208df6165a28f7d928edbedad562ae33623352b7955ca54e8"), looks := false }, kinds := [], alts := [], laidByText := true, laidKinds := [.data, .data, .data, .pinned, .pinned], laidTests := true, laidLooks := .later }
def FnFoldJoinCardSaid : Prop := Claim7.holds Tryd.pinned (.plain (OpenSpec.ofChange fnFoldJoinSpec)) fnFoldJoinCard

/-- THE TIED CARD OF 'laws.FnFoldThree'. -/
def fnFoldThreeCard : Claim7 := { stood := { row := fnFoldThreeRow, standIns := [], harness := (true, "07c0c3c760e7f1c208df6165a28f7d928edbedad562ae33623352b7955ca54e8"), looks := false }, kinds := [], alts := [], laidByText := true, laidKinds := [.data, .data, .data, .pinned, .pinned], laidTests := true, laidLooks := .later }
def FnFoldThreeCardSaid : Prop := Claim7.holds Tryd.pinned (.plain (OpenSpec.ofChange fnFoldThreeSpec)) fnFoldThreeCard

/-- THE TIED CARD OF 'laws.FnExactEqualFoldAscii'. -/
def fnExactEqualFoldAsciiCard : Claim7 := { stood := { row := fnExactEqualFoldAsciiRow, standIns := [], harness := (true, "07c0c3c760e7f1c208df6165a28f7d928edbedad562ae33623352b7955ca54e8"), looks := false }, kinds := [], alts := [], laidByText := true, laidKinds := [.data, .data, .data, .pinned, .pinned], laidTests := true, laidLooks := .later }
def FnExactEqualFoldAsciiCardSaid : Prop := Claim7.holds Tryd.pinned (.plain (OpenSpec.ofChange fnExactEqualFoldAsciiSpec)) fnExactEqualFoldAsciiCard

/-- THE TIED CARD OF 'laws.FnExactEqualFold'. -/
def fnExactEqualFoldCard : Claim7 := { stood := { row := fnExactEqualFoldRow, standIns := [], harness := (true, "07c0c3c760e7f1c208df6165a28f7d928edbedad562ae33623352b7955ca54e8"), looks := false }, kinds := [], alts := [], laidByText := true, laidKinds := [.data, .data, .data, .pinned, .pinned], laidTests := true, laidLooks := .later }
def FnExactEqualFoldCardSaid : Prop := Claim7.holds Tryd.pinned (.plain (OpenSpec.ofChange fnExactEqualFoldSpec)) fnExactEqualFoldCard

/-- THE TIED CARD OF 'laws.FnExactEqualFoldValid'. -/
def fnExactEqualFoldValidCard : Claim7 := { stood := { row := fnExactEqualFoldValidRow, standIns := [], harness := (true, "07c0c3c760e7f1c208df6165a28f7d928edbedad562ae33623352b7955ca54e8"), looks := false }, kinds := [], alts := [], laidByText := true, laidKinds := [.data, .data, .data, .pinned, .pinned], laidTests := true, laidLooks := .later }
def FnExactEqualFoldValidCardSaid : Prop := Claim7.holds Tryd.pinned (.plain (OpenSpec.ofChange fnExactEqualFoldValidSpec)) fnExactEqualFoldValidCard

/-- THE TIED CARD OF 'laws.FnExactEqualFoldBytes'. -/
def fnExactEqualFoldBytesCard : Claim7 := { stood := { row := fnExactEqualFoldBytesRow, standIns := [], harness := (true, "07c0c3c760e7f1c208df6165a28f7d928edbedad562ae33623352b7955ca54e8"), looks := false }, kinds := [], alts := [], laidByText := true, laidKinds := [.data, .data, .data, .pinned, .pinned], laidTests := true, laidLooks := .later }
def FnExactEqualFoldBytesCardSaid : Prop := Claim7.holds Tryd.pinned (.plain (OpenSpec.ofChange fnExactEqualFoldBytesSpec)) fnExactEqualFoldBytesCard

/-- THE TIED CARD OF 'laws.FnExactEqualFoldBytesValid'. -/
def fnExactEqualFoldBytesValidCard : Claim7 := { stood := { row := fnExactEqualFoldBytesValidRow, standIns := [], harness := (true, "07c0c3c760e7f1c208df6165a28f7d928edbedad562ae33623352b7955ca54e8"), looks := false }, kinds := [], alts := [], laidByText := true, laidKinds := [.data, .data, .data, .pinned, .pinned], laidTests := true, laidLooks := .later }
def FnExactEqualFoldBytesValidCardSaid : Prop := Claim7.holds Tryd.pinned (.plain (OpenSpec.ofChange fnExactEqualFoldBytesValidSpec)) fnExactEqualFoldBytesValidCard

/-- THE SECOND FORM's CARD OF 'laws.FnFoldSelf'. -/
def fnFoldSelfUptoCard : Claim7 := { stood := { row := fnFoldSelfUptoRow, standIns := [], harness := (true, "07c0c3c760e7f1c208df6165a28f7d928edbedad562ae33623352b7955ca54e8"), looks := false }, kinds := [], alts := [], laidByText := true, laidKinds := [.data, .data, .data, .pinned, .pinned], laidTests := true, laidLooks := .later }
def FnFoldSelfUptoCardSaid : Prop := Claim7.holds Tryd.pinned (.plain (OpenSpec.upto fnFoldSelfSpec)) fnFoldSelfUptoCard

/-- THE SECOND FORM's CARD OF 'laws.FnFoldTurned'. -/
def fnFoldTurnedUptoCard : Claim7 := { stood := { row := fnFoldTurnedUptoRow, standIns := [], harness := (true, "07c0c3c760e7f1c208df6165a28f7d928edbedad562ae33623352b7955ca54e8"), looks := false }, kinds := [], alts := [], laidByText := true, laidKinds := [.data, .data, .data, .pinned, .pinned], laidTests := true, laidLooks := .later }
def FnFoldTurnedUptoCardSaid : Prop := Claim7.holds Tryd.pinned (.plain (OpenSpec.upto fnFoldTurnedSpec)) fnFoldTurnedUptoCard

/-- THE SECOND FORM's CARD OF 'laws.FnFoldAscii'. -/
def fnFoldAsciiUptoCard : Claim7 := { stood := { row := fnFoldAsciiUptoRow, standIns := [], harness := (true, "07c0c3c760e7f1c208df6165a28f7d928edbedad562ae33623352b7955ca54e8"), looks := false }, kinds := [], alts := [], laidByText := true, laidKinds := [.data, .data, .data, .pinned, .pinned], laidTests := true, laidLooks := .later }
def FnFoldAsciiUptoCardSaid : Prop := Claim7.holds Tryd.pinned (.plain (OpenSpec.upto fnFoldAsciiSpec)) fnFoldAsciiUptoCard

/-- THE SECOND FORM's CARD OF 'laws.FnFoldLonger'. -/
def fnFoldLongerUptoCard : Claim7 := { stood := { row := fnFoldLongerUptoRow, standIns := [], harness := (true, "07c0c3c760e7f1c208df6165a28f7d928edbedad562ae33623352b7955ca54e8"), looks := false }, kinds := [], alts := [], laidByText := true, laidKinds := [.data, .data, .data, .pinned, .pinned], laidTests := true, laidLooks := .later }
def FnFoldLongerUptoCardSaid : Prop := Claim7.holds Tryd.pinned (.plain (OpenSpec.upto fnFoldLongerSpec)) fnFoldLongerUptoCard

/-- THE SECOND FORM's CARD OF 'laws.FnFoldJoin'. -/
def fnFoldJoinUptoCard : Claim7 := { stood := { row := fnFoldJoinUptoRow, standIns := [], harness := (true, "07c0c3c760e7f1c208df6165a28f7d928edbedad562ae33623352b7955ca54e8"), looks := false }, kinds := [], alts := [], laidByText := true, laidKinds := [.data, .data, .data, .pinned, .pinned], laidTests := true, laidLooks := .later }
def FnFoldJoinUptoCardSaid : Prop := Claim7.holds Tryd.pinned (.plain (OpenSpec.upto fnFoldJoinSpec)) fnFoldJoinUptoCard

/-- THE SECOND FORM's CARD OF 'laws.FnFoldThree'. -/
def fnFoldThreeUptoCard : Claim7 := { stood := { row := fnFoldThreeUptoRow, standIns := [], harness := (true, "07c0c3c760e7f1c208df6165a28f7d928edbedad562ae33623352b7955ca54e8"), looks := false }, kinds := [], alts := [], laidByText := true, laidKinds := [.data, .data, .data, .pinned, .pinned], laidTests := true, laidLooks := .later }
def FnFoldThreeUptoCardSaid : Prop := Claim7.holds Tryd.pinned (.plain (OpenSpec.upto fnFoldThreeSpec)) fnFoldThreeUptoCard

/-- THE SECOND FORM's CARD OF 'laws.FnExactEqualFoldAscii'. -/
def fnExactEqualFoldAsciiUptoCard : Claim7 := { stood := { row := fnExactEqualFoldAsciiUptoRow, standIns := [], harness := (true, "07c0c3c760e7f1c208df6165a28f7d928edbedad562ae33623352b7955ca54e8"), looks := false }, kinds := [], alts := [], laidByText := true, laidKinds := [.data, .data, .data, .pinned, .pinned], laidTests := true, laidLooks := .later }
def FnExactEqualFoldAsciiUptoCardSaid : Prop := Claim7.holds Tryd.pinned (.plain (OpenSpec.upto fnExactEqualFoldAsciiSpec)) fnExactEqualFoldAsciiUptoCard

/-- THE SECOND FORM's CARD OF 'laws.FnExactEqualFold'. -/
def fnExactEqualFoldUptoCard : Claim7 := { stood := { row := fnExactEqualFoldUptoRow, standIns := [], harness := (true, "07c0c3c760e7f1c208df6165a28f7d928edbedad562ae33623352b7955ca54e8"), looks := false }, kinds := [], alts := [], laidByText := true, laidKinds := [.data, .data, .data, .pinned, .pinned], laidTests := true, laidLooks := .later }
def FnExactEqualFoldUptoCardSaid : Prop := Claim7.holds Tryd.pinned (.plain (OpenSpec.upto fnExactEqualFoldSpec)) fnExactEqualFoldUptoCard

/-- THE SECOND FORM's CARD OF 'laws.FnExactEqualFoldValid'. -/
def fnExactEqualFoldValidUptoCard : Claim7 := { stood := { row := fnExactEqualFoldValidUptoRow, standIns := [], harness := (true, "07c0c3c760e7f1c208df6165a28f7d928edbedad562ae33623352b7955ca54e8"), looks := false }, kinds := [], alts := [], laidByText := true, laidKinds := [.data, .data, .data, .pinned, .pinned], laidTests := true, laidLooks := .later }
def FnExactEqualFoldValidUptoCardSaid : Prop := Claim7.holds Tryd.pinned (.plain (OpenSpec.upto fnExactEqualFoldValidSpec)) fnExactEqualFoldValidUptoCard

/-- THE SECOND FORM's CARD OF 'laws.FnExactEqualFoldBytes'. -/
def fnExactEqualFoldBytesUptoCard : Claim7 := { stood := { row := fnExactEqualFoldBytesUptoRow, standIns := [], harness := (true, "07c0c3c760e7f1c208df6165a28f7d928edbedad562ae33623352b7955ca54e8"), looks := false }, kinds := [], alts := [], laidByText := true, laidKinds := [.data, .data, .data, .pinned, .pinned], laidTests := true, laidLooks := .later }
def FnExactEqualFoldBytesUptoCardSaid : Prop := Claim7.holds Tryd.pinned (.plain (OpenSpec.upto fnExactEqualFoldBytesSpec)) fnExactEqualFoldBytesUptoCard

/-- THE SECOND FORM's CARD OF 'laws.FnExactEqualFoldBytesValid'. -/
def fnExactEqualFoldBytesValidUptoCard : Claim7 := { stood := { row := fnExactEqualFoldBytesValidUptoRow, standIns := [], harness := (true, "07c0c3c760e7f1c208df6165a28f7d928edbedad562ae33623352b7955ca54e8"), looks := false }, kinds := [], alts := [], laidByText := true, laidKinds := [.data, .data, .data, .pinned, .pinned], laidTests := true, laidLooks := .later }
def FnExactEqualFoldBytesValidUptoCardSaid : Prop := Claim7.holds Tryd.pinned (.plain (OpenSpec.upto fnExactEqualFoldBytesValidSpec)) fnExactEqualFoldBytesValidUptoCard
end Rows
end Go.Proofs.YtgljpgnmlpglnaaDoor
