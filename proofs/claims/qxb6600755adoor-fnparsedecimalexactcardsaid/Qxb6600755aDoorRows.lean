/-
  NARROWER THAN 'FOR EVERY INPUT', by the rows' own cells (each row's printed sentence says how): FnParseDecimalExact: laid · FnParseDecimalExponentShift: laid · FnParseDecimalNormalFormRoundTrip: laid · FnSignOfParsedNumber: laid · FnSignNegation: laid · FnKindOfNumberAgreesWithParseDecimal: laid.
  DERIVED. THE GIVEN ROWS OF THIS SEAT. 6 by the template 'for every input the law returns true; each argument reads behind the call as it read before'; 0 by the template 'total and deterministic' (their statements: Qxb6600755aDoorTotals.lean).
  GIVEN WITH THE SEED: the statements are not yours to turn. If you find one false, say at which input.
  Laid BY PROGRAM, IN A SANDBOX (cutbox-rows.mjs): the forced cells as the released guide's own fill.sh prints them over the translation 78e491f915956a95… (all of the seat's roots in one cut). By AI agents, Wed Nov 11 2026. No macro, syntax, notation, axiom, sorry.
-/
import Derived.Test.Qxb6600755aDoorChecked
import GoSem.PinnedTables
import GoSem.Claim
import GoSem.ClaimJoined
import GoSem.ClaimMapViews
import Derived.JoinedTies
import Derived.KernelRfl
namespace Go.Proofs.Qxb6600755aDoor
/- THE CELL 'sum', in the pinned program and in every row, IS THE sha256 OF THE DUMP (.gsa) THAT Qxb6600755aDoorProg.lean LOADS. Nothing in Lean hashes anything: it is a label: what it is worth is what the hold of that sum in a sandbox is worth. -/
noncomputable def Tryd.pinned : Pinned := { name := "qxb6600755adoor", sum := "78e491f915956a95a9c6a0f074a724c8e18fe5e9ed27cba2bd436eaa87947a80", checked := Tryd.checked }
namespace Rows
def none {H : Type} : Left H := { results := [], args := [] }

/- WHAT THE LISTED PACKAGE-LEVEL VARIABLES READ AS WHEN THE CALL BEGINS. Each datum BY PROGRAM (the guide's laid-datum.mjs) off the statement by which the dump's own 'gosem.cut.vars' lays the variable. In a bare row this is a premise. The card (Qxb6600755aDoorCards.lean) ties it to the program's text. -/
def laid_unicode_utf8_acceptRanges {H : Type} : DataW H := .agg [.agg [.lit (.int .u8 128), .lit (.int .u8 191)], .agg [.lit (.int .u8 160), .lit (.int .u8 191)], .agg [.lit (.int .u8 128), .lit (.int .u8 159)], .agg [.lit (.int .u8 144), .lit (.int .u8 191)], .agg [.lit (.int .u8 128), .lit (.int .u8 143)], .agg [.lit (.int .u8 0), .lit (.int .u8 0)], .agg [.lit (.int .u8 0), .lit (.int .u8 0)], .agg [.lit (.int .u8 0), .lit (.int .u8 0)], .agg [.lit (.int .u8 0), .lit (.int .u8 0)], .agg [.lit (.int .u8 0), .lit (.int .u8 0)], .agg [.lit (.int .u8 0), .lit (.int .u8 0)], .agg [.lit (.int .u8 0), .lit (.int .u8 0)], .agg [.lit (.int .u8 0), .lit (.int .u8 0)], .agg [.lit (.int .u8 0), .lit (.int .u8 0)], .agg [.lit (.int .u8 0), .lit (.int .u8 0)], .agg [.lit (.int .u8 0), .lit (.int .u8 0)]]
/-- One of Go's own tables, pinned by name: the form's constant. -/
def laid_unicode_utf8_first : DataW Unit := Go.Pinned.utf8First

/-- 'zzlaws_pkg_value_b1.FnParseDecimalExact': WHATEVER THE INPUT: true; the input reads as it did. -/
def fnParseDecimalExactSpec : ChangeSpec := { name := "fnParseDecimalExact", fn := fun _ => fun
  | [d] => { results := [.lit (.bool true)], args := [d] }
  | _ => none }
def fnParseDecimalExactRow : OpenClaim := { program := "qxb6600755adoor", sum := "78e491f915956a95a9c6a0f074a724c8e18fe5e9ed27cba2bd436eaa87947a80", func := "example.com/weirlock/weirlock/zzlaws_pkg_value_b1.FnParseDecimalExact", spec := "fnParseDecimalExact", named := ["unicode/utf8.first", "unicode/utf8.acceptRanges"], apart := false, laid := [("unicode/utf8.acceptRanges", laid_unicode_utf8_acceptRanges), ("unicode/utf8.first", laid_unicode_utf8_first)] }
def FnParseDecimalExactSaid : Prop := fnParseDecimalExactRow.holds Tryd.pinned (OpenSpec.ofChange fnParseDecimalExactSpec)

/-- ITS FALSE NEIGHBOUR: 'it returns false'. Refute it at one input. -/
def fnParseDecimalExactWrong : ChangeSpec := { name := "fnParseDecimalExact", fn := fun _ => fun
  | [d] => { results := [.lit (.bool false)], args := [d] }
  | _ => none }
def FnParseDecimalExactWrongFalsely : Prop := fnParseDecimalExactRow.holds Tryd.pinned (OpenSpec.ofChange fnParseDecimalExactWrong)

/-- 'zzlaws_pkg_value_b1.FnParseDecimalExponentShift': WHATEVER THE INPUT: true; the input reads as it did. -/
def fnParseDecimalExponentShiftSpec : ChangeSpec := { name := "fnParseDecimalExponentShift", fn := fun _ => fun
  | [d1, d2] => { results := [.lit (.bool true)], args := [d1, d2] }
  | _ => none }
def fnParseDecimalExponentShiftRow : OpenClaim := { program := "qxb6600755adoor", sum := "78e491f915956a95a9c6a0f074a724c8e18fe5e9ed27cba2bd436eaa87947a80", func := "example.com/weirlock/weirlock/zzlaws_pkg_value_b1.FnParseDecimalExponentShift", spec := "fnParseDecimalExponentShift", named := ["unicode/utf8.first", "unicode/utf8.acceptRanges"], apart := false, laid := [("unicode/utf8.acceptRanges", laid_unicode_utf8_acceptRanges), ("unicode/utf8.first", laid_unicode_utf8_first)] }
def FnParseDecimalExponentShiftSaid : Prop := fnParseDecimalExponentShiftRow.holds Tryd.pinned (OpenSpec.ofChange fnParseDecimalExponentShiftSpec)

/-- ITS FALSE NEIGHBOUR: 'it returns false'. Refute it at one input. -/
def fnParseDecimalExponentShiftWrong : ChangeSpec := { name := "fnParseDecimalExponentShift", fn := fun _ => fun
  | [d1, d2] => { results := [.lit (.bool false)], args := [d1, d2] }
  | _ => none }
def FnParseDecimalExponentShiftWrongFalsely : Prop := fnParseDecimalExponentShiftRow.holds Tryd.pinned (OpenSpec.ofChange fnParseDecimalExponentShiftWrong)

/-- 'zzlaws_pkg_value_b1.FnParseDecimalNormalFormRoundTrip': WHATEVER THE INPUT: true; the input reads as it did. -/
def fnParseDecimalNormalFormRoundTripSpec : ChangeSpec := { name := "fnParseDecimalNormalFormRoundTrip", fn := fun _ => fun
  | [d] => { results := [.lit (.bool true)], args := [d] }
  | _ => none }
def fnParseDecimalNormalFormRoundTripRow : OpenClaim := { program := "qxb6600755adoor", sum := "78e491f915956a95a9c6a0f074a724c8e18fe5e9ed27cba2bd436eaa87947a80", func := "example.com/weirlock/weirlock/zzlaws_pkg_value_b1.FnParseDecimalNormalFormRoundTrip", spec := "fnParseDecimalNormalFormRoundTrip", named := ["unicode/utf8.first", "unicode/utf8.acceptRanges"], apart := false, laid := [("unicode/utf8.acceptRanges", laid_unicode_utf8_acceptRanges), ("unicode/utf8.first", laid_unicode_utf8_first)] }
def FnParseDecimalNormalFormRoundTripSaid : Prop := fnParseDecimalNormalFormRoundTripRow.holds Tryd.pinned (OpenSpec.ofChange fnParseDecimalNormalFormRoundTripSpec)

/-- ITS FALSE NEIGHBOUR: 'it returns false'. Refute it at one input. -/
def fnParseDecimalNormalFormRoundTripWrong : ChangeSpec := { name := "fnParseDecimalNormalFormRoundTrip", fn := fun _ => fun
  | [d] => { results := [.lit (.bool false)], args := [d] }
  | _ => none }
def FnParseDecimalNormalFormRoundTripWrongFalsely : Prop := fnParseDecimalNormalFormRoundTripRow.holds Tryd.pinned (OpenSpec.ofChange fnParseDecimalNormalFormRoundTripWrong)

/-- 'zzlaws_pkg_value_b1.FnSignOfParsedNumber': WHATEVER THE INPUT: true; the input reads as it did. -/
def fnSignOfParsedNumberSpec : ChangeSpec := { name := "fnSignOfParsedNumber", fn := fun _ => fun
  | [d] => { results := [.lit (.bool true)], args := [d] }
  | _ => none }
def fnSignOfParsedNumberRow : OpenClaim := { program := "qxb6600755adoor", sum := "78e491f915956a95a9c6a0f074a724c8e18fe5e9ed27cba2bd436eaa87947a80", func := "example.com/weirlock/weirlock/zzlaws_pkg_value_b1.FnSignOfParsedNumber", spec := "fnSignOfParsedNumber", named := ["unicode/utf8.first", "unicode/utf8.acceptRanges"], apart := false, laid := [("unicode/utf8.acceptRanges", laid_unicode_utf8_acceptRanges), ("unicode/utf8.first", laid_unicode_utf8_first)] }
def FnSignOfParsedNumberSaid : Prop := fnSignOfParsedNumberRow.holds Tryd.pinned (OpenSpec.ofChange fnSignOfParsedNumberSpec)

/-- ITS FALSE NEIGHBOUR: 'it returns false'. Refute it at one input. -/
def fnSignOfParsedNumberWrong : ChangeSpec := { name := "fnSignOfParsedNumber", fn := fun _ => fun
  | [d] => { results := [.lit (.bool false)], args := [d] }
  | _ => none }
def FnSignOfParsedNumberWrongFalsely : Prop := fnSignOfParsedNumberRow.holds Tryd.pinned (OpenSpec.ofChange fnSignOfParsedNumberWrong)

/-- 'zzlaws_pkg_value_b1.FnSignNegation': WHATEVER THE INPUT: true; the input reads as it did. -/
def fnSignNegationSpec : ChangeSpec := { name := "fnSignNegation", fn := fun _ => fun
  | [d] => { results := [.lit (.bool true)], args := [d] }
  | _ => none }
def fnSignNegationRow : OpenClaim := { program := "qxb6600755adoor", sum := "78e491f915956a95a9c6a0f074a724c8e18fe5e9ed27cba2bd436eaa87947a80", func := "example.com/weirlock/weirlock/zzlaws_pkg_value_b1.FnSignNegation", spec := "fnSignNegation", named := ["unicode/utf8.first", "unicode/utf8.acceptRanges"], apart := false, laid := [("unicode/utf8.acceptRanges", laid_unicode_utf8_acceptRanges), ("unicode/utf8.first", laid_unicode_utf8_first)] }
def FnSignNegationSaid : Prop := fnSignNegationRow.holds Tryd.pinned (OpenSpec.ofChange fnSignNegationSpec)

/-- ITS FALSE NEIGHBOUR: 'it returns false'. Refute it at one input. -/
def fnSignNegationWrong : ChangeSpec := { name := "fnSignNegation", fn := fun _ => fun
  | [d] => { results := [.lit (.bool false)], args := [d] }
  | _ => none }
def FnSignNegationWrongFalsely : Prop := fnSignNegationRow.holds Tryd.pinned (OpenSpec.ofChange fnSignNegationWrong)

/-- 'zzlaws_pkg_value_b1.FnKindOfNumberAgreesWithParseDecimal': WHATEVER THE INPUT: true; the input reads as it did. -/
def fnKindOfNumberAgreesWithParseDecimalSpec : ChangeSpec := { name := "fnKindOfNumberAgreesWithParseDecimal", fn := fun _ => fun
  | [d] => { results := [.lit (.bool true)], args := [d] }
  | _ => none }
def fnKindOfNumberAgreesWithParseDecimalRow : OpenClaim := { program := "qxb6600755adoor", sum := "78e491f915956a95a9c6a0f074a724c8e18fe5e9ed27cba2bd436eaa87947a80", func := "example.com/weirlock/weirlock/zzlaws_pkg_value_b1.FnKindOfNumberAgreesWithParseDecimal", spec := "fnKindOfNumberAgreesWithParseDecimal", named := ["unicode/utf8.first", "unicode/utf8.acceptRanges"], apart := false, laid := [("unicode/utf8.acceptRanges", laid_unicode_utf8_acceptRanges), ("unicode/utf8.first", laid_unicode_utf8_first)] }
def FnKindOfNumberAgreesWithParseDecimalSaid : Prop := fnKindOfNumberAgreesWithParseDecimalRow.holds Tryd.pinned (OpenSpec.ofChange fnKindOfNumberAgreesWithParseDecimalSpec)

/-- ITS FALSE NEIGHBOUR: 'it returns false'. Refute it at one input. -/
def fnKindOfNumberAgreesWithParseDecimalWrong : ChangeSpec := { name := "fnKindOfNumberAgreesWithParseDecimal", fn := fun _ => fun
  | [d] => { results := [.lit (.bool false)], args := [d] }
  | _ => none }
def FnKindOfNumberAgreesWithParseDecimalWrongFalsely : Prop := fnKindOfNumberAgreesWithParseDecimalRow.holds Tryd.pinned (OpenSpec.ofChange fnKindOfNumberAgreesWithParseDecimalWrong)

end Rows
end Go.Proofs.Qxb6600755aDoor
