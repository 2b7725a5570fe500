/-
  DERIVED. GIVEN WITH THE SEED: THE CARDS: each row of Qxb6600755aDoorRows.lean that lists a variable, with what it lists TIED to the program's text (the seventh form; the later family's looks); each row that meets fmt, with fmt's text TOLD by the authors' own Lean function (tested against real Go, not proved from fmt's source: count such statements apart). THE CARD IS WHAT COUNTS. Prove the row's statement (the work); the ties are given (Qxb6600755aDoorTie.lean); close each card by the builder's one call (the guide's Derived/Test/ToyasCard.lean, 'card_holds'). Laid BY PROGRAM, IN A SANDBOX (cutbox-door.mjs). By AI agents, Wed Nov 11 2026. No macro, syntax, notation, axiom, sorry.
-/
import Derived.Test.Qxb6600755aDoorRows
import GoSem.ClaimSeven
namespace Go.Proofs.Qxb6600755aDoor
namespace Rows

/-- THE TIED CARD OF 'zzlaws_pkg_value_b1.FnParseDecimalExact'. -/
def fnParseDecimalExactCard : Claim7 := { stood := { row := fnParseDecimalExactRow, standIns := [], harness := (true, "37dd88ee4d4f544d2688494e6e3209a422b6a8dbc804bdb4ec396fc5c2ec89cd"), looks := false }, kinds := [], alts := [], laidByText := true, laidKinds := [.data, .pinned], laidTests := true, laidLooks := .later }
def FnParseDecimalExactCardSaid : Prop := Claim7.holds Tryd.pinned (.plain (OpenSpec.ofChange fnParseDecimalExactSpec)) fnParseDecimalExactCard

/-- THE TIED CARD OF 'zzlaws_pkg_value_b1.FnParseDecimalExponentShift'. -/
def fnParseDecimalExponentShiftCard : Claim7 := { stood := { row := fnParseDecimalExponentShiftRow, standIns := [], harness := (true, "37dd88ee4d4f544d2688494e6e3209a422b6a8dbc804bdb4ec396fc5c2ec89cd"), looks := false }, kinds := [], alts := [], laidByText := true, laidKinds := [.data, .pinned], laidTests := true, laidLooks := .later }
def FnParseDecimalExponentShiftCardSaid : Prop := Claim7.holds Tryd.pinned (.plain (OpenSpec.ofChange fnParseDecimalExponentShiftSpec)) fnParseDecimalExponentShiftCard

/-- THE TIED CARD OF 'zzlaws_pkg_value_b1.FnParseDecimalNormalFormRoundTrip'. -/
def fnParseDecimalNormalFormRoundTripCard : Claim7 := { stood := { row := fnParseDecimalNormalFormRoundTripRow, standIns := [], harness := (true, "37dd88ee4d4f544d2688494e6e3209a422b6a8dbc804bdb4ec396fc5c2ec89cd"), looks := false }, kinds := [], alts := [], laidByText := true, laidKinds := [.data, .pinned], laidTests := true, laidLooks := .later }
def FnParseDecimalNormalFormRoundTripCardSaid : Prop := Claim7.holds Tryd.pinned (.plain (OpenSpec.ofChange fnParseDecimalNormalFormRoundTripSpec)) fnParseDecimalNormalFormRoundTripCard

/-- THE TIED CARD OF 'zzlaws_pkg_value_b1.FnSignOfParsedNumber'. -/
def fnSignOfParsedNumberCard : Claim7 := { stood := { row := fnSignOfParsedNumberRow, standIns := [], harness := (true, "37dd88ee4d4f544d2688494e6e3209a422b6a8dbc804bdb4ec396fc5c2ec89cd"), looks := false }, kinds := [], alts := [], laidByText := true, laidKinds := [.data, .pinned], laidTests := true, laidLooks := .later }
def FnSignOfParsedNumberCardSaid : Prop := Claim7.holds Tryd.pinned (.plain (OpenSpec.ofChange fnSignOfParsedNumberSpec)) fnSignOfParsedNumberCard

/-- THE TIED CARD OF 'zzlaws_pkg_value_b1.FnSignNegation'. -/
def fnSignNegationCard : Claim7 := { stood := { row := fnSignNegationRow, standIns := [], harness := (true, "37dd88ee4d4f544d2688494e6e3209a422b6a8dbc804bdb4ec396fc5c2ec89cd"), looks := false }, kinds := [], alts := [], laidByText := true, laidKinds := [.data, .pinned], laidTests := true, laidLooks := .later }
def FnSignNegationCardSaid : Prop := Claim7.holds Tryd.pinned (.plain (OpenSpec.ofChange fnSignNegationSpec)) fnSignNegationCard

/-- THE TIED CARD OF 'zzlaws_pkg_value_b1.FnKindOfNumberAgreesWithParseDecimal'. -/
def fnKindOfNumberAgreesWithParseDecimalCard : Claim7 := { stood := { row := fnKindOfNumberAgreesWithParseDecimalRow, standIns := [], harness := (true, "37dd88ee4d4f544d2688494e6e3209a422b6a8dbc804bdb4ec396fc5c2ec89cd"), looks := false }, kinds := [], alts := [], laidByText := true, laidKinds := [.data, .pinned], laidTests := true, laidLooks := .later }
def FnKindOfNumberAgreesWithParseDecimalCardSaid : Prop := Claim7.holds Tryd.pinned (.plain (OpenSpec.ofChange fnKindOfNumberAgreesWithParseDecimalSpec)) fnKindOfNumberAgreesWithParseDecimalCard
end Rows
end Go.Proofs.Qxb6600755aDoor
