/-
  DERIVED. GIVEN WITH THE SEED: THE CARDS: each row of YtmobodjighkilaaDoorRows.lean that lists a variable, with what it lists TIED to the program's text (the seventh form; the later family's looks); each row that meets fmt, with fmt's text TOLD by the authors' own Lean function (tested against real Go, not proved from fmt's source: count such statements apart). THE CARD IS WHAT COUNTS. Prove the row's statement (the work); the ties are given (YtmobodjighkilaaDoorTie.lean); close each card by the builder's one call (the guide's Derived/Test/ToyasCard.lean, 'card_holds'). Laid BY PROGRAM, IN A SANDBOX (cutbox-door.mjs). By AI agents, Wed Nov 11 2026. No macro, syntax, notation, axiom, sorry.
-/
import Derived.Test.YtmobodjighkilaaDoorRows
import GoSem.ClaimSeven
namespace Go.Proofs.YtmobodjighkilaaDoor
namespace Rows

/-- THE TIED CARD OF 'laws.FnSimpleFoldAscii'. -/
def fnSimpleFoldAsciiCard : Claim7 := { stood := { row := fnSimpleFoldAsciiRow, standIns := [], harness := (true, "932b79f222cd9f871fda321c435594691bc0cb80d0216a4f91e1edd49cfdb095"), looks := false }, kinds := [], alts := [], laidByText := true, laidKinds := [.data, .data, .pinned], laidTests := true, laidLooks := .later }
def FnSimpleFoldAsciiCardSaid : Prop := Claim7.holds Tryd.pinned (.plain (OpenSpec.ofChange fnSimpleFoldAsciiSpec)) fnSimpleFoldAsciiCard

/-- THE TIED CARD OF 'laws.FnSimpleFoldNone'. -/
def fnSimpleFoldNoneCard : Claim7 := { stood := { row := fnSimpleFoldNoneRow, standIns := [], harness := (true, "932b79f222cd9f871fda321c435594691bc0cb80d0216a4f91e1edd49cfdb095"), looks := false }, kinds := [], alts := [], laidByText := true, laidKinds := [.data, .data, .pinned], laidTests := true, laidLooks := .later }
def FnSimpleFoldNoneCardSaid : Prop := Claim7.holds Tryd.pinned (.plain (OpenSpec.ofChange fnSimpleFoldNoneSpec)) fnSimpleFoldNoneCard

/-- THE TIED CARD OF 'laws.FnSimpleFoldOrbit'. -/
def fnSimpleFoldOrbitCard : Claim7 := { stood := { row := fnSimpleFoldOrbitRow, standIns := [], harness := (true, "932b79f222cd9f871fda321c435594691bc0cb80d0216a4f91e1edd49cfdb095"), looks := false }, kinds := [], alts := [], laidByText := true, laidKinds := [.data, .data, .pinned], laidTests := true, laidLooks := .later }
def FnSimpleFoldOrbitCardSaid : Prop := Claim7.holds Tryd.pinned (.plain (OpenSpec.ofChange fnSimpleFoldOrbitSpec)) fnSimpleFoldOrbitCard

/-- THE SECOND FORM's CARD OF 'laws.FnSimpleFoldAscii'. -/
def fnSimpleFoldAsciiUptoCard : Claim7 := { stood := { row := fnSimpleFoldAsciiUptoRow, standIns := [], harness := (true, "932b79f222cd9f871fda321c435594691bc0cb80d0216a4f91e1edd49cfdb095"), looks := false }, kinds := [], alts := [], laidByText := true, laidKinds := [.data, .data, .pinned], laidTests := true, laidLooks := .later }
def FnSimpleFoldAsciiUptoCardSaid : Prop := Claim7.holds Tryd.pinned (.plain (OpenSpec.upto fnSimpleFoldAsciiSpec)) fnSimpleFoldAsciiUptoCard

/-- THE SECOND FORM's CARD OF 'laws.FnSimpleFoldNone'. -/
def fnSimpleFoldNoneUptoCard : Claim7 := { stood := { row := fnSimpleFoldNoneUptoRow, standIns := [], harness := (true, "932b79f222cd9f871fda321c435594691bc0cb80d0216a4f91e1edd49cfdb095"), looks := false }, kinds := [], alts := [], laidByText := true, laidKinds := [.data, .data, .pinned], laidTests := true, laidLooks := .later }
def FnSimpleFoldNoneUptoCardSaid : Prop := Claim7.holds Tryd.pinned (.plain (OpenSpec.upto fnSimpleFoldNoneSpec)) fnSimpleFoldNoneUptoCard

/-- THE SECOND FORM's CARD OF 'laws.FnSimpleFoldOrbit'. -/
def fnSimpleFoldOrbitUptoCard : Claim7 := { stood := { row := fnSimpleFoldOrbitUptoRow, standIns := [], harness := (true, "932b79f222cd9f871fda321c435594691bc0cb80d0216a4f91e1edd49cfdb095"), looks := false }, kinds := [], alts := [], laidByText := true, laidKinds := [.data, .data, .pinned], laidTests := true, laidLooks := .later }
def FnSimpleFoldOrbitUptoCardSaid : Prop := Claim7.holds Tryd.pinned (.plain (OpenSpec.upto fnSimpleFoldOrbitSpec)) fnSimpleFoldOrbitUptoCard
end Rows
end Go.Proofs.YtmobodjighkilaaDoor
