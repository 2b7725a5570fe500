/-
  NARROWER THAN 'FOR EVERY INPUT', by the rows' own cells (each row's printed sentence says how): FnNumberCanonicalDecimal: laid · FnNumberOrderFollowsDigits: laid · FnNumberUndeclaredIsEmpty: laid.
  DERIVED. THE GIVEN ROWS OF THIS SEAT. 3 by the template 'for every input the law returns true; each argument reads behind the call as it read before'; 0 by the template 'total and deterministic' (their statements: Qxb6600369aFmtTotals.lean).
  GIVEN WITH THE SEED: the statements are not yours to turn. If you find one false, say at which input.
  Laid BY PROGRAM, IN A SANDBOX (cutbox-rows.mjs): the forced cells as the released guide's own fill.sh prints them over the translation eb900c430ad8a756… (all of the seat's roots in one cut). By AI agents, Wed Nov 11 2026. No macro, syntax, notation, axiom, sorry.
-/
import Derived.Test.Qxb6600369aFmtChecked
import GoSem.PinnedTables
import GoSem.Claim
import GoSem.ClaimJoined
import GoSem.ClaimMapViews
import Derived.JoinedTies
import Derived.KernelRfl
namespace Go.Proofs.Qxb6600369aFmt
/- THE CELL 'sum', in the pinned program and in every row, IS THE sha256 OF THE DUMP (.gsa) THAT Qxb6600369aFmtProg.lean LOADS. Nothing in Lean hashes anything: it is a label: what it is worth is what the hold of that sum in a sandbox is worth. -/
noncomputable def Tryf.pinned : Pinned := { name := "qxb6600369afmt", sum := "eb900c430ad8a7565d7d8a38f54904b8562ee776fbc0a4dcb413a82d392a9556", checked := Tryf.checked }
namespace Rows
def none {H : Type} : Left H := { results := [], args := [] }

/- WHAT THE LISTED PACKAGE-LEVEL VARIABLES READ AS WHEN THE CALL BEGINS. Each datum BY PROGRAM (the guide's laid-datum.mjs) off the statement by which the dump's own 'gosem.cut.vars' lays the variable. In a bare row this is a premise. The card (Qxb6600369aFmtCards.lean) ties it to the program's text. -/
def laid_unicode_utf8_acceptRanges {H : Type} : DataW H := .agg [.agg [.lit (.int .u8 128), .lit (.int .u8 191)], .agg [.lit (.int .u8 160), .lit (.int .u8 191)], .agg [.lit (.int .u8 128), .lit (.int .u8 159)], .agg [.lit (.int .u8 144), .lit (.int .u8 191)], .agg [.lit (.int .u8 128), .lit (.int .u8 143)], .agg [.lit (.int .u8 0), .lit (.int .u8 0)], .agg [.lit (.int .u8 0), .lit (.int .u8 0)], .agg [.lit (.int .u8 0), .lit (.int .u8 0)], .agg [.lit (.int .u8 0), .lit (.int .u8 0)], .agg [.lit (.int .u8 0), .lit (.int .u8 0)], .agg [.lit (.int .u8 0), .lit (.int .u8 0)], .agg [.lit (.int .u8 0), .lit (.int .u8 0)], .agg [.lit (.int .u8 0), .lit (.int .u8 0)], .agg [.lit (.int .u8 0), .lit (.int .u8 0)], .agg [.lit (.int .u8 0), .lit (.int .u8 0)], .agg [.lit (.int .u8 0), .lit (.int .u8 0)]]
/-- One of Go's own tables, pinned by name: the form's constant. -/
def laid_unicode_utf8_first : DataW Unit := Go.Pinned.utf8First

/-- 'zzlaws_internal_ofd_b1.FnNumberCanonicalDecimal': WHATEVER THE INPUT: true; the input reads as it did. -/
def fnNumberCanonicalDecimalSpec : ChangeSpec := { name := "fnNumberCanonicalDecimal", fn := fun _ => fun
  | [d1, d2, d3, d4, d5] => { results := [.lit (.bool true)], args := [d1, d2, d3, d4, d5] }
  | _ => none }
def fnNumberCanonicalDecimalRow : OpenClaim := { program := "qxb6600369afmt", sum := "eb900c430ad8a7565d7d8a38f54904b8562ee776fbc0a4dcb413a82d392a9556", func := "example.com/zhaomu/zhaomu/zzlaws_internal_ofd_b1.FnNumberCanonicalDecimal", spec := "fnNumberCanonicalDecimal", stops := ["fmt.Sprintf"], inPlace := ["fmt.Sprintf", "internal/bytealg.IndexByteString", "internal/bytealg.IndexString"], named := ["unicode/utf8.first", "unicode/utf8.acceptRanges", "internal/bytealg.MaxLen"], apart := false, laid := [("unicode/utf8.acceptRanges", laid_unicode_utf8_acceptRanges), ("unicode/utf8.first", laid_unicode_utf8_first)] }
/-- NO THEOREM (fmt's text is open here; it may be false): for the released tool's asking of the row's closed facts alone. THE STATEMENT IS 'FnNumberCanonicalDecimalToldSaid' (Qxb6600369aFmtCards.lean). -/
def FnNumberCanonicalDecimalFormAsk : Prop := fnNumberCanonicalDecimalRow.holds Tryf.pinned (OpenSpec.ofChange fnNumberCanonicalDecimalSpec)

/-- ITS FALSE NEIGHBOUR: 'it returns false'. Refute it at one input. -/
def fnNumberCanonicalDecimalWrong : ChangeSpec := { name := "fnNumberCanonicalDecimal", fn := fun _ => fun
  | [d1, d2, d3, d4, d5] => { results := [.lit (.bool false)], args := [d1, d2, d3, d4, d5] }
  | _ => none }
def FnNumberCanonicalDecimalWrongFormAsk : Prop := fnNumberCanonicalDecimalRow.holds Tryf.pinned (OpenSpec.ofChange fnNumberCanonicalDecimalWrong)

/-- 'zzlaws_internal_ofd_b1.FnNumberOrderFollowsDigits': WHATEVER THE INPUT: true; the input reads as it did. -/
def fnNumberOrderFollowsDigitsSpec : ChangeSpec := { name := "fnNumberOrderFollowsDigits", fn := fun _ => fun
  | [d1, d2, d3, d4] => { results := [.lit (.bool true)], args := [d1, d2, d3, d4] }
  | _ => none }
def fnNumberOrderFollowsDigitsRow : OpenClaim := { program := "qxb6600369afmt", sum := "eb900c430ad8a7565d7d8a38f54904b8562ee776fbc0a4dcb413a82d392a9556", func := "example.com/zhaomu/zhaomu/zzlaws_internal_ofd_b1.FnNumberOrderFollowsDigits", spec := "fnNumberOrderFollowsDigits", stops := ["fmt.Sprintf"], inPlace := ["fmt.Sprintf", "internal/bytealg.IndexByteString", "internal/bytealg.IndexString"], named := ["unicode/utf8.first", "unicode/utf8.acceptRanges", "internal/bytealg.MaxLen"], apart := false, laid := [("unicode/utf8.acceptRanges", laid_unicode_utf8_acceptRanges), ("unicode/utf8.first", laid_unicode_utf8_first)] }
/-- NO THEOREM (fmt's text is open here; it may be false): for the released tool's asking of the row's closed facts alone. THE STATEMENT IS 'FnNumberOrderFollowsDigitsToldSaid' (Qxb6600369aFmtCards.lean). -/
def FnNumberOrderFollowsDigitsFormAsk : Prop := fnNumberOrderFollowsDigitsRow.holds Tryf.pinned (OpenSpec.ofChange fnNumberOrderFollowsDigitsSpec)

/-- ITS FALSE NEIGHBOUR: 'it returns false'. Refute it at one input. -/
def fnNumberOrderFollowsDigitsWrong : ChangeSpec := { name := "fnNumberOrderFollowsDigits", fn := fun _ => fun
  | [d1, d2, d3, d4] => { results := [.lit (.bool false)], args := [d1, d2, d3, d4] }
  | _ => none }
def FnNumberOrderFollowsDigitsWrongFormAsk : Prop := fnNumberOrderFollowsDigitsRow.holds Tryf.pinned (OpenSpec.ofChange fnNumberOrderFollowsDigitsWrong)

/-- 'zzlaws_internal_ofd_b1.FnNumberUndeclaredIsEmpty': WHATEVER THE INPUT: true; the input reads as it did. -/
def fnNumberUndeclaredIsEmptySpec : ChangeSpec := { name := "fnNumberUndeclaredIsEmpty", fn := fun _ => fun
  | [d1, d2, d3, d4] => { results := [.lit (.bool true)], args := [d1, d2, d3, d4] }
  | _ => none }
def fnNumberUndeclaredIsEmptyRow : OpenClaim := { program := "qxb6600369afmt", sum := "eb900c430ad8a7565d7d8a38f54904b8562ee776fbc0a4dcb413a82d392a9556", func := "example.com/zhaomu/zhaomu/zzlaws_internal_ofd_b1.FnNumberUndeclaredIsEmpty", spec := "fnNumberUndeclaredIsEmpty", stops := ["fmt.Sprintf"], inPlace := ["fmt.Sprintf", "internal/bytealg.IndexByteString", "internal/bytealg.IndexString"], named := ["unicode/utf8.first", "unicode/utf8.acceptRanges", "internal/bytealg.MaxLen"], apart := false, laid := [("unicode/utf8.acceptRanges", laid_unicode_utf8_acceptRanges), ("unicode/utf8.first", laid_unicode_utf8_first)] }
/-- NO THEOREM (fmt's text is open here; it may be false): for the released tool's asking of the row's closed facts alone. THE STATEMENT IS 'FnNumberUndeclaredIsEmptyToldSaid' (Qxb6600369aFmtCards.lean). -/
def FnNumberUndeclaredIsEmptyFormAsk : Prop := fnNumberUndeclaredIsEmptyRow.holds Tryf.pinned (OpenSpec.ofChange fnNumberUndeclaredIsEmptySpec)

/-- ITS FALSE NEIGHBOUR: 'it returns false'. Refute it at one input. -/
def fnNumberUndeclaredIsEmptyWrong : ChangeSpec := { name := "fnNumberUndeclaredIsEmpty", fn := fun _ => fun
  | [d1, d2, d3, d4] => { results := [.lit (.bool false)], args := [d1, d2, d3, d4] }
  | _ => none }
def FnNumberUndeclaredIsEmptyWrongFormAsk : Prop := fnNumberUndeclaredIsEmptyRow.holds Tryf.pinned (OpenSpec.ofChange fnNumberUndeclaredIsEmptyWrong)

end Rows
end Go.Proofs.Qxb6600369aFmt
