/-
  DERIVED. GIVEN WITH THE SEED: THE CARDS: each row of YtdkcdeiejeajhaaDoorRows.lean that lists a variable, with what it lists TIED to the program's text (the seventh form; the later family's looks); each row that meets fmt, with fmt's text TOLD by the authors' own Lean function (tested against real Go, not proved from fmt's source: count such statements apart). THE CARD IS WHAT COUNTS. Prove the row's statement (the work); the ties are given (YtdkcdeiejeajhaaDoorTie.lean); close each card by the builder's one call (the guide's Derived/Test/ToyasCard.lean, 'card_holds'). Laid BY PROGRAM, IN A SANDBOX (cutbox-door.mjs). By AI agents, Wed Nov 11 2026. No macro, syntax, notation, axiom, sorry.
-/
import Derived.Test.YtdkcdeiejeajhaaDoorRows
import GoSem.ClaimSeven
namespace Go.Proofs.YtdkcdeiejeajhaaDoor
namespace Rows

/-- THE TIED CARD OF 'laws.FnExactEqualFoldAscii'. -/
def fnExactEqualFoldAsciiCard : Claim7 := { stood := { row := fnExactEqualFoldAsciiRow, standIns := [], harness := (true, "e06403e8ba7dfa81ceb1a412751b87704d1c925f45e95d5ae36babb18d02b37e"), looks := false }, kinds := [], alts := [], laidByText := true, laidKinds := [.data, .data, .data, .pinned, .pinned], laidTests := true, laidLooks := .later }
def FnExactEqualFoldAsciiCardSaid : Prop := Claim7.holds Tryd.pinned (.plain (OpenSpec.ofChange fnExactEqualFoldAsciiSpec)) fnExactEqualFoldAsciiCard

/-- THE TIED CARD OF 'laws.FnExactEqualFoldBytes'. -/
def fnExactEqualFoldBytesCard : Claim7 := { stood := { row := fnExactEqualFoldBytesRow, standIns := [], harness := (true, "e06403e8ba7dfa81ceb1a412751b87704d1c925f45e95d5ae36babb18d02b37e"), looks := false }, kinds := [], alts := [], laidByText := true, laidKinds := [.data, .data, .data, .pinned, .pinned], laidTests := true, laidLooks := .later }
def FnExactEqualFoldBytesCardSaid : Prop := Claim7.holds Tryd.pinned (.plain (OpenSpec.ofChange fnExactEqualFoldBytesSpec)) fnExactEqualFoldBytesCard

/-- THE TIED CARD OF 'laws.FnExactEqualFold'. -/
def fnExactEqualFoldCard : Claim7 := { stood := { row := fnExactEqualFoldRow, standIns := [], harness := (true, "e06403e8ba7dfa81ceb1a412751b87704d1c925f45e95d5ae36babb18d02b37e"), looks := false }, kinds := [], alts := [], laidByText := true, laidKinds := [.data, .data, .data, .pinned, .pinned], laidTests := true, laidLooks := .later }
def FnExactEqualFoldCardSaid : Prop := Claim7.holds Tryd.pinned (.plain (OpenSpec.ofChange fnExactEqualFoldSpec)) fnExactEqualFoldCard

/-- THE TIED CARD OF 'laws.FnExactEqualFoldBytesValid'. -/
def fnExactEqualFoldBytesValidCard : Claim7 := { stood := { row := fnExactEqualFoldBytesValidRow, standIns := [], harness := (true, "e06403e8ba7dfa81ceb1a412751b87704d1c925f45e95d5ae36babb18d02b37e"), looks := false }, kinds := [], alts := [], laidByText := true, laidKinds := [.data, .data, .data, .pinned, .pinned], laidTests := true, laidLooks := .later }
def FnExactEqualFoldBytesValidCardSaid : Prop := Claim7.holds Tryd.pinned (.plain (OpenSpec.ofChange fnExactEqualFoldBytesValidSpec)) fnExactEqualFoldBytesValidCard

/-- THE TIED CARD OF 'laws.FnExactEqualFoldValid'. -/
def fnExactEqualFoldValidCard : Claim7 := { stood := { row := fnExactEqualFoldValidRow, standIns := [], harness := (true, "e06403e8ba7dfa81ceb1a412751b87704d1c925f45e95d5ae36babb18d02b37e"), looks := false }, kinds := [], alts := [], laidByText := true, laidKinds := [.data, .data, .data, .pinned, .pinned], laidTests := true, laidLooks := .later }
def FnExactEqualFoldValidCardSaid : Prop := Claim7.holds Tryd.pinned (.plain (OpenSpec.ofChange fnExactEqualFoldValidSpec)) fnExactEqualFoldValidCard

/-- THE TIED CARD OF 'laws.FnFoldThree'. -/
def fnFoldThreeCard : Claim7 := { stood := { row := fnFoldThreeRow, standIns := [], harness := (true, "e06403e8ba7dfa81ceb1a412751b87704d1c925f45e95d5ae36babb18d02b37e"), looks := false }, kinds := [], alts := [], laidByText := true, laidKinds := [.data, .data, .data, .pinned, .pinned], laidTests := true, laidLooks := .later }
def FnFoldThreeCardSaid : Prop := Claim7.holds Tryd.pinned (.plain (OpenSpec.ofChange fnFoldThreeSpec)) fnFoldThreeCard

/-- THE SECOND FORM's CARD OF 'laws.FnExactEqualFoldAscii'. -/
def fnExactEqualFoldAsciiUptoCard : Claim7 := { stood := { row := fnExactEqualFoldAsciiUptoRow, standIns := [], harness := (true, "e06403e8ba7dfa81ceb1a412751b87704d1c925f45e95d5ae36babb18d02b37e"), looks := false }, kinds := [], alts := [], laidByText := true, laidKinds := [.data, .data, .data, .pinned, .pinned], laidTests := true, laidLooks := .later }
def FnExactEqualFoldAsciiUptoCardSaid : Prop := Claim7.holds Tryd.pinned (.plain (OpenSpec.upto fnExactEqualFoldAsciiSpec)) fnExactEqualFoldAsciiUptoCard

/-- THE SECOND FORM's CARD OF 'laws.FnExactEqualFoldBytes'. -/
def fnExactEqualFoldBytesUptoCard : Claim7 := { stood := { row := fnExactEqualFoldBytesUptoRow, standIns := [], harness := (true, "e06403e8ba7dfa81ceb1a412751b87704d1c925f45e95d5ae36babb18d02b37e"), looks := false }, kinds := [], alts := [], laidByText := true, laidKinds := [.data, .data, .data, .pinned, .pinned], laidTests := true, laidLooks := .later }
def FnExactEqualFoldBytesUptoCardSaid : Prop := Claim7.holds Tryd.pinned (.plain (OpenSpec.upto fnExactEqualFoldBytesSpec)) fnExactEqualFoldBytesUptoCard

/-- THE SECOND FORM's CARD OF 'laws.FnExactEqualFold'. -/
def fnExactEqualFoldUptoCard : Claim7 := { stood := { row := fnExactEqualFoldUptoRow, standIns := [], harness := (true, "e06403e8ba7dfa81ceb1a412751b87704d1c925f45e95d5ae36babb18d02b37e"), looks := false }, kinds := [], alts := [], laidByText := true, laidKinds := [.data, .data, .data, .pinned, .pinned], laidTests := true, laidLooks := .later }
def FnExactEqualFoldUptoCardSaid : Prop := Claim7.holds Tryd.pinned (.plain (OpenSpec.upto fnExactEqualFoldSpec)) fnExactEqualFoldUptoCard

/-- THE SECOND FORM's CARD OF 'laws.FnExactEqualFoldBytesValid'. -/
def fnExactEqualFoldBytesValidUptoCard : Claim7 := { stood := { row := fnExactEqualFoldBytesValidUptoRow, standIns := [], harness := (true, "e06403e8ba7dfa81ceb1a412751b87704d1c925f45e95d5ae36babb18d02b37e"), looks := false }, kinds := [], alts := [], laidByText := true, laidKinds := [.data, .data, .data, .pinned, .pinned], laidTests := true, laidLooks := .later }
def FnExactEqualFoldBytesValidUptoCardSaid : Prop := Claim7.holds Tryd.pinned (.plain (OpenSpec.upto fnExactEqualFoldBytesValidSpec)) fnExactEqualFoldBytesValidUptoCard

/-- THE SECOND FORM's CARD OF 'laws.FnExactEqualFoldValid'. -/
def fnExactEqualFoldValidUptoCard : Claim7 := { stood := { row := fnExactEqualFoldValidUptoRow, standIns := [], harness := (true, "e06403e8ba7dfa81ceb1a412751b87704d1c925f45e95d5ae36babb18d02b37e"), looks := false }, kinds := [], alts := [], laidByText := true, laidKinds := [.data, .data, .data, .pinned, .pinned], laidTests := true, laidLooks := .later }
def FnExactEqualFoldValidUptoCardSaid : Prop := Claim7.holds Tryd.pinned (.plain (OpenSpec.upto fnExactEqualFoldValidSpec)) fnExactEqualFoldValidUptoCard

/-- THE SECOND FORM's CARD OF 'laws.FnFoldThree'. -/
def fnFoldThreeUptoCard : Claim7 := { stood := { row := fnFoldThreeUptoRow, standIns := [], harness := (true, "e06403e8ba7dfa81ceb1a412751b87704d1c925f45e95d5ae36babb18d02b37e"), looks := false }, kinds := [], alts := [], laidByText := true, laidKinds := [.data, .data, .data, .pinned, .pinned], laidTests := true, laidLooks := .later }
def FnFoldThreeUptoCardSaid : Prop := Claim7.holds Tryd.pinned (.plain (OpenSpec.upto fnFoldThreeSpec)) fnFoldThreeUptoCard
end Rows
end Go.Proofs.YtdkcdeiejeajhaaDoor
