/-
  DERIVED. GIVEN WITH THE SEED: THE CARDS: each row of Qxb6600369aFmtRows.lean that lists a variable, with what it lists TIED to the program's text (the seventh form; the later family's looks); each row that meets fmt, with fmt's text TOLD by the authors' own Lean function (tested against real Go, not proved from fmt's source: count such statements apart). THE CARD IS WHAT COUNTS. Prove the row's statement (the work); the ties are given (Qxb6600369aFmtTie.lean); close each card by the builder's one call (the guide's Derived/Test/ToyasCard.lean, 'card_holds'). Laid BY PROGRAM, IN A SANDBOX (cutbox-door.mjs). By AI agents, Wed Nov 11 2026. No macro, syntax, notation, axiom, sorry.
-/
import Derived.Test.Qxb6600369aFmtRows
import GoSem.ClaimSeven
namespace Go.Proofs.Qxb6600369aFmt
namespace Rows

/-- THE TOLD AND TIED CARD OF 'zzlaws_internal_ofd_b1.FnNumberCanonicalDecimal'. -/
def fnNumberCanonicalDecimalCard : Claim7 := { stood := { row := fnNumberCanonicalDecimalRow, standIns := [], harness := (true, "3eb9e0253df3f8da5c3086616442ab9c5ea98ff9cd152d931a1f02e1365522da"), looks := false }, told := true, laidByText := true, laidKinds := [.data, .pinned], laidTests := true, laidLooks := .later, goes := false }
def FnNumberCanonicalDecimalToldSaid : Prop := Claim7.holds Tryf.pinned (.plain (OpenSpec.ofChange fnNumberCanonicalDecimalSpec)) fnNumberCanonicalDecimalCard
/-- ITS FALSE NEIGHBOUR. Refute it at one input. -/
def FnNumberCanonicalDecimalToldWrongFalsely : Prop := Claim7.holds Tryf.pinned (.plain (OpenSpec.ofChange fnNumberCanonicalDecimalWrong)) fnNumberCanonicalDecimalCard

/-- THE TOLD AND TIED CARD OF 'zzlaws_internal_ofd_b1.FnNumberOrderFollowsDigits'. -/
def fnNumberOrderFollowsDigitsCard : Claim7 := { stood := { row := fnNumberOrderFollowsDigitsRow, standIns := [], harness := (true, "3eb9e0253df3f8da5c3086616442ab9c5ea98ff9cd152d931a1f02e1365522da"), looks := false }, told := true, laidByText := true, laidKinds := [.data, .pinned], laidTests := true, laidLooks := .later, goes := false }
def FnNumberOrderFollowsDigitsToldSaid : Prop := Claim7.holds Tryf.pinned (.plain (OpenSpec.ofChange fnNumberOrderFollowsDigitsSpec)) fnNumberOrderFollowsDigitsCard
/-- ITS FALSE NEIGHBOUR. Refute it at one input. -/
def FnNumberOrderFollowsDigitsToldWrongFalsely : Prop := Claim7.holds Tryf.pinned (.plain (OpenSpec.ofChange fnNumberOrderFollowsDigitsWrong)) fnNumberOrderFollowsDigitsCard

/-- THE TOLD AND TIED CARD OF 'zzlaws_internal_ofd_b1.FnNumberUndeclaredIsEmpty'. -/
def fnNumberUndeclaredIsEmptyCard : Claim7 := { stood := { row := fnNumberUndeclaredIsEmptyRow, standIns := [], harness := (true, "3eb9e0253df3f8da5c3086616442ab9c5ea98ff9cd152d931a1f02e1365522da"), looks := false }, told := true, laidByText := true, laidKinds := [.data, .pinned], laidTests := true, laidLooks := .later, goes := false }
def FnNumberUndeclaredIsEmptyToldSaid : Prop := Claim7.holds Tryf.pinned (.plain (OpenSpec.ofChange fnNumberUndeclaredIsEmptySpec)) fnNumberUndeclaredIsEmptyCard
/-- ITS FALSE NEIGHBOUR. Refute it at one input. -/
def FnNumberUndeclaredIsEmptyToldWrongFalsely : Prop := Claim7.holds Tryf.pinned (.plain (OpenSpec.ofChange fnNumberUndeclaredIsEmptyWrong)) fnNumberUndeclaredIsEmptyCard
end Rows
end Go.Proofs.Qxb6600369aFmt
