/-
  NARROWER THAN 'FOR EVERY INPUT', by the rows' own cells (each row's printed sentence says how): FnFieldValuePaddingInvariant: laid · FnFieldValueIdempotent: laid · FnUnfoldSpec: laid · FnUnfoldRestAndBound: laid · FnUnfoldOneLineAgreesFieldValue: laid.
  DERIVED. THE GIVEN ROWS OF THIS SEAT. 5 by the template 'for every input the law returns true; each argument reads behind the call as it read before'; 0 by the template 'total and deterministic' (their statements: Qxb6600698aDoorTotals.lean).
  GIVEN WITH THE SEED: the statements are not yours to turn. If you find one false, say at which input.
  Laid BY PROGRAM, IN A SANDBOX (cutbox-rows.mjs): the forced cells as the released guide's own fill.sh prints them over the translation 804e8f22c4b49660… (all of the seat's roots in one cut). By AI agents, Wed Nov 11 2026. No macro, syntax, notation, axiom, sorry.
-/
import Derived.Test.Qxb6600698aDoorChecked
import GoSem.PinnedTables
import GoSem.Claim
import GoSem.ClaimJoined
import GoSem.ClaimMapViews
import Derived.JoinedTies
import Derived.KernelRfl
namespace Go.Proofs.Qxb6600698aDoor
/- THE CELL 'sum', in the pinned program and in every row, IS THE sha256 OF THE DUMP (.gsa) THAT Qxb6600698aDoorProg.lean LOADS. Nothing in Lean hashes anything: it is a label: what it is worth is what the hold of that sum in a sandbox is worth. -/
noncomputable def Tryd.pinned : Pinned := { name := "qxb6600698adoor", sum := "804e8f22c4b496605492c5fc6b10916d84facd2c4e409a7916d423b235152f81", checked := Tryd.checked }
namespace Rows
def none {H : Type} : Left H := { results := [], args := [] }

/- WHAT THE LISTED PACKAGE-LEVEL VARIABLES READ AS WHEN THE CALL BEGINS. Each datum BY PROGRAM (the guide's laid-datum.mjs) off the statement by which the dump's own 'gosem.cut.vars' lays the variable. In a bare row this is a premise. The card (Qxb6600698aDoorCards.lean) ties it to the program's text. -/
def laid_unicode_utf8_acceptRanges {H : Type} : DataW H := .agg [.agg [.lit (.int .u8 128), .lit (.int .u8 191)], .agg [.lit (.int .u8 160), .lit (.int .u8 191)], .agg [.lit (.int .u8 128), .lit (.int .u8 159)], .agg [.lit (.int .u8 144), .lit (.int .u8 191)], .agg [.lit (.int .u8 128), .lit (.int .u8 143)], .agg [.lit (.int .u8 0), .lit (.int .u8 0)], .agg [.lit (.int .u8 0), .lit (.int .u8 0)], .agg [.lit (.int .u8 0), .lit (.int .u8 0)], .agg [.lit (.int .u8 0), .lit (.int .u8 0)], .agg [.lit (.int .u8 0), .lit (.int .u8 0)], .agg [.lit (.int .u8 0), .lit (.int .u8 0)], .agg [.lit (.int .u8 0), .lit (.int .u8 0)], .agg [.lit (.int .u8 0), .lit (.int .u8 0)], .agg [.lit (.int .u8 0), .lit (.int .u8 0)], .agg [.lit (.int .u8 0), .lit (.int .u8 0)], .agg [.lit (.int .u8 0), .lit (.int .u8 0)]]
/-- One of Go's own tables, pinned by name: the form's constant. -/
def laid_unicode_utf8_first : DataW Unit := Go.Pinned.utf8First

/-- 'zzlaws_pkg_upstream_b1.FnFieldValuePaddingInvariant': WHATEVER THE INPUT: true; the input reads as it did. -/
def fnFieldValuePaddingInvariantSpec : ChangeSpec := { name := "fnFieldValuePaddingInvariant", fn := fun _ => fun
  | [d1, d2, d3] => { results := [.lit (.bool true)], args := [d1, d2, d3] }
  | _ => none }
def fnFieldValuePaddingInvariantRow : OpenClaim := { program := "qxb6600698adoor", sum := "804e8f22c4b496605492c5fc6b10916d84facd2c4e409a7916d423b235152f81", func := "example.com/ostia/ostia/zzlaws_pkg_upstream_b1.FnFieldValuePaddingInvariant", spec := "fnFieldValuePaddingInvariant", inPlace := ["internal/bytealg.IndexByteString", "internal/bytealg.IndexString"], named := ["unicode/utf8.first", "unicode/utf8.acceptRanges", "internal/bytealg.MaxLen"], apart := false, laid := [("unicode/utf8.acceptRanges", laid_unicode_utf8_acceptRanges), ("unicode/utf8.first", laid_unicode_utf8_first)] }
def FnFieldValuePaddingInvariantSaid : Prop := fnFieldValuePaddingInvariantRow.holds Tryd.pinned (OpenSpec.ofChange fnFieldValuePaddingInvariantSpec)

/-- ITS FALSE NEIGHBOUR: 'it returns false'. Refute it at one input. -/
def fnFieldValuePaddingInvariantWrong : ChangeSpec := { name := "fnFieldValuePaddingInvariant", fn := fun _ => fun
  | [d1, d2, d3] => { results := [.lit (.bool false)], args := [d1, d2, d3] }
  | _ => none }
def FnFieldValuePaddingInvariantWrongFalsely : Prop := fnFieldValuePaddingInvariantRow.holds Tryd.pinned (OpenSpec.ofChange fnFieldValuePaddingInvariantWrong)

/-- 'zzlaws_pkg_upstream_b1.FnFieldValueIdempotent': WHATEVER THE INPUT: true; the input reads as it did. -/
def fnFieldValueIdempotentSpec : ChangeSpec := { name := "fnFieldValueIdempotent", fn := fun _ => fun
  | [d] => { results := [.lit (.bool true)], args := [d] }
  | _ => none }
def fnFieldValueIdempotentRow : OpenClaim := { program := "qxb6600698adoor", sum := "804e8f22c4b496605492c5fc6b10916d84facd2c4e409a7916d423b235152f81", func := "example.com/ostia/ostia/zzlaws_pkg_upstream_b1.FnFieldValueIdempotent", spec := "fnFieldValueIdempotent", inPlace := ["internal/bytealg.IndexByteString", "internal/bytealg.IndexString"], named := ["unicode/utf8.first", "unicode/utf8.acceptRanges", "internal/bytealg.MaxLen"], apart := false, laid := [("unicode/utf8.acceptRanges", laid_unicode_utf8_acceptRanges), ("unicode/utf8.first", laid_unicode_utf8_first)] }
def FnFieldValueIdempotentSaid : Prop := fnFieldValueIdempotentRow.holds Tryd.pinned (OpenSpec.ofChange fnFieldValueIdempotentSpec)

/-- ITS FALSE NEIGHBOUR: 'it returns false'. Refute it at one input. -/
def fnFieldValueIdempotentWrong : ChangeSpec := { name := "fnFieldValueIdempotent", fn := fun _ => fun
  | [d] => { results := [.lit (.bool false)], args := [d] }
  | _ => none }
def FnFieldValueIdempotentWrongFalsely : Prop := fnFieldValueIdempotentRow.holds Tryd.pinned (OpenSpec.ofChange fnFieldValueIdempotentWrong)

/-- 'zzlaws_pkg_upstream_b1.FnUnfoldSpec': WHATEVER THE INPUT: true; the input reads as it did. -/
def fnUnfoldSpecSpec : ChangeSpec := { name := "fnUnfoldSpec", fn := fun _ => fun
  | [d1, d2] => { results := [.lit (.bool true)], args := [d1, d2] }
  | _ => none }
def fnUnfoldSpecRow : OpenClaim := { program := "qxb6600698adoor", sum := "804e8f22c4b496605492c5fc6b10916d84facd2c4e409a7916d423b235152f81", func := "example.com/ostia/ostia/zzlaws_pkg_upstream_b1.FnUnfoldSpec", spec := "fnUnfoldSpec", inPlace := ["internal/abi.NoEscape", "internal/bytealg.IndexByteString", "internal/bytealg.IndexString"], named := ["internal/bytealg.MaxLen", "unicode/utf8.first", "unicode/utf8.acceptRanges"], apart := false, laid := [("unicode/utf8.acceptRanges", laid_unicode_utf8_acceptRanges), ("unicode/utf8.first", laid_unicode_utf8_first)] }
def FnUnfoldSpecSaid : Prop := fnUnfoldSpecRow.holds Tryd.pinned (OpenSpec.ofChange fnUnfoldSpecSpec)

/-- ITS FALSE NEIGHBOUR: 'it returns false'. Refute it at one input. -/
def fnUnfoldSpecWrong : ChangeSpec := { name := "fnUnfoldSpec", fn := fun _ => fun
  | [d1, d2] => { results := [.lit (.bool false)], args := [d1, d2] }
  | _ => none }
def FnUnfoldSpecWrongFalsely : Prop := fnUnfoldSpecRow.holds Tryd.pinned (OpenSpec.ofChange fnUnfoldSpecWrong)

/-- 'zzlaws_pkg_upstream_b1.FnUnfoldRestAndBound': WHATEVER THE INPUT: true; the input reads as it did. -/
def fnUnfoldRestAndBoundSpec : ChangeSpec := { name := "fnUnfoldRestAndBound", fn := fun _ => fun
  | [d1, d2] => { results := [.lit (.bool true)], args := [d1, d2] }
  | _ => none }
def fnUnfoldRestAndBoundRow : OpenClaim := { program := "qxb6600698adoor", sum := "804e8f22c4b496605492c5fc6b10916d84facd2c4e409a7916d423b235152f81", func := "example.com/ostia/ostia/zzlaws_pkg_upstream_b1.FnUnfoldRestAndBound", spec := "fnUnfoldRestAndBound", inPlace := ["internal/abi.NoEscape", "internal/bytealg.IndexByteString", "internal/bytealg.IndexString"], named := ["internal/bytealg.MaxLen", "unicode/utf8.first", "unicode/utf8.acceptRanges"], apart := false, laid := [("unicode/utf8.acceptRanges", laid_unicode_utf8_acceptRanges), ("unicode/utf8.first", laid_unicode_utf8_first)] }
def FnUnfoldRestAndBoundSaid : Prop := fnUnfoldRestAndBoundRow.holds Tryd.pinned (OpenSpec.ofChange fnUnfoldRestAndBoundSpec)

/-- ITS FALSE NEIGHBOUR: 'it returns false'. Refute it at one input. -/
def fnUnfoldRestAndBoundWrong : ChangeSpec := { name := "fnUnfoldRestAndBound", fn := fun _ => fun
  | [d1, d2] => { results := [.lit (.bool false)], args := [d1, d2] }
  | _ => none }
def FnUnfoldRestAndBoundWrongFalsely : Prop := fnUnfoldRestAndBoundRow.holds Tryd.pinned (OpenSpec.ofChange fnUnfoldRestAndBoundWrong)

/-- 'zzlaws_pkg_upstream_b1.FnUnfoldOneLineAgreesFieldValue': WHATEVER THE INPUT: true; the input reads as it did. -/
def fnUnfoldOneLineAgreesFieldValueSpec : ChangeSpec := { name := "fnUnfoldOneLineAgreesFieldValue", fn := fun _ => fun
  | [d1, d2] => { results := [.lit (.bool true)], args := [d1, d2] }
  | _ => none }
def fnUnfoldOneLineAgreesFieldValueRow : OpenClaim := { program := "qxb6600698adoor", sum := "804e8f22c4b496605492c5fc6b10916d84facd2c4e409a7916d423b235152f81", func := "example.com/ostia/ostia/zzlaws_pkg_upstream_b1.FnUnfoldOneLineAgreesFieldValue", spec := "fnUnfoldOneLineAgreesFieldValue", inPlace := ["internal/abi.NoEscape", "internal/bytealg.IndexByteString", "internal/bytealg.IndexString"], named := ["internal/bytealg.MaxLen", "unicode/utf8.first", "unicode/utf8.acceptRanges"], apart := false, laid := [("unicode/utf8.acceptRanges", laid_unicode_utf8_acceptRanges), ("unicode/utf8.first", laid_unicode_utf8_first)] }
def FnUnfoldOneLineAgreesFieldValueSaid : Prop := fnUnfoldOneLineAgreesFieldValueRow.holds Tryd.pinned (OpenSpec.ofChange fnUnfoldOneLineAgreesFieldValueSpec)

/-- ITS FALSE NEIGHBOUR: 'it returns false'. Refute it at one input. -/
def fnUnfoldOneLineAgreesFieldValueWrong : ChangeSpec := { name := "fnUnfoldOneLineAgreesFieldValue", fn := fun _ => fun
  | [d1, d2] => { results := [.lit (.bool false)], args := [d1, d2] }
  | _ => none }
def FnUnfoldOneLineAgreesFieldValueWrongFalsely : Prop := fnUnfoldOneLineAgreesFieldValueRow.holds Tryd.pinned (OpenSpec.ofChange fnUnfoldOneLineAgreesFieldValueWrong)

end Rows
end Go.Proofs.Qxb6600698aDoor
