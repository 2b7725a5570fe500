/-
  DERIVED. GIVEN WITH THE SEED: THE CARDS: each row of Qxb6600698aDoorRows.lean that lists a variable, with what it lists TIED to the program's text (the seventh form; the later family's looks); each row that meets fmt, with fmt's text TOLD by the authors' own Lean function (tested against real Go, not proved from fmt's source: count such statements apart). THE CARD IS WHAT COUNTS. Prove the row's statement (the work); the ties are given (Qxb6600698aDoorTie.lean); close each card by the builder's one call (the guide's Derived/Test/ToyasCard.lean, 'card_holds'). Laid BY PROGRAM, IN A SANDBOX (cutbox-door.mjs). By AI agents, Wed Nov 11 2026. No macro, syntax, notation, axiom, sorry.
-/
import Derived.Test.Qxb6600698aDoorRows
import GoSem.ClaimSeven
namespace Go.Proofs.Qxb6600698aDoor
namespace Rows

/-- THE TIED CARD OF 'zzlaws_pkg_upstream_b1.FnFieldValuePaddingInvariant'. -/
def fnFieldValuePaddingInvariantCard : Claim7 := { stood := { row := fnFieldValuePaddingInvariantRow, standIns := [], harness := (true, "cd22fcf6deecc11e465112705770200028b93ce4094100df1c0d1a8a82334842"), looks := false }, kinds := [], alts := [], laidByText := true, laidKinds := [.data, .pinned], laidTests := true, laidLooks := .later }
def FnFieldValuePaddingInvariantCardSaid : Prop := Claim7.holds Tryd.pinned (.plain (OpenSpec.ofChange fnFieldValuePaddingInvariantSpec)) fnFieldValuePaddingInvariantCard

/-- THE TIED CARD OF 'zzlaws_pkg_upstream_b1.FnFieldValueIdempotent'. -/
def fnFieldValueIdempotentCard : Claim7 := { stood := { row := fnFieldValueIdempotentRow, standIns := [], harness := (true, "cd22fcf6deecc11e465112705770200028b93ce4094100df1c0d1a8a82334842"), looks := false }, kinds := [], alts := [], laidByText := true, laidKinds := [.data, .pinned], laidTests := true, laidLooks := .later }
def FnFieldValueIdempotentCardSaid : Prop := Claim7.holds Tryd.pinned (.plain (OpenSpec.ofChange fnFieldValueIdempotentSpec)) fnFieldValueIdempotentCard

/-- THE TIED CARD OF 'zzlaws_pkg_upstream_b1.FnUnfoldSpec'. -/
def fnUnfoldSpecCard : Claim7 := { stood := { row := fnUnfoldSpecRow, standIns := [], harness := (true, "cd22fcf6deecc11e465112705770200028b93ce4094100df1c0d1a8a82334842"), looks := false }, kinds := [], alts := [], laidByText := true, laidKinds := [.data, .pinned], laidTests := true, laidLooks := .later }
def FnUnfoldSpecCardSaid : Prop := Claim7.holds Tryd.pinned (.plain (OpenSpec.ofChange fnUnfoldSpecSpec)) fnUnfoldSpecCard

/-- THE TIED CARD OF 'zzlaws_pkg_upstream_b1.FnUnfoldRestAndBound'. -/
def fnUnfoldRestAndBoundCard : Claim7 := { stood := { row := fnUnfoldRestAndBoundRow, standIns := [], harness := (true, "cd22fcf6deecc11e465112705770200028b93ce4094100df1c0d1a8a82334842"), looks := false }, kinds := [], alts := [], laidByText := true, laidKinds := [.data, .pinned], laidTests := true, laidLooks := .later }
def FnUnfoldRestAndBoundCardSaid : Prop := Claim7.holds Tryd.pinned (.plain (OpenSpec.ofChange fnUnfoldRestAndBoundSpec)) fnUnfoldRestAndBoundCard

/-- THE TIED CARD OF 'zzlaws_pkg_upstream_b1.FnUnfoldOneLineAgreesFieldValue'. -/
def fnUnfoldOneLineAgreesFieldValueCard : Claim7 := { stood := { row := fnUnfoldOneLineAgreesFieldValueRow, standIns := [], harness := (true, "cd22fcf6deecc11e465112705770200028b93ce4094100df1c0d1a8a82334842"), looks := false }, kinds := [], alts := [], laidByText := true, laidKinds := [.data, .pinned], laidTests := true, laidLooks := .later }
def FnUnfoldOneLineAgreesFieldValueCardSaid : Prop := Claim7.holds Tryd.pinned (.plain (OpenSpec.ofChange fnUnfoldOneLineAgreesFieldValueSpec)) fnUnfoldOneLineAgreesFieldValueCard
end Rows
end Go.Proofs.Qxb6600698aDoor
