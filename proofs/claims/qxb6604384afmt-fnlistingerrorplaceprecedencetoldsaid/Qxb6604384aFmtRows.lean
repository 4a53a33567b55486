/-
  NARROWER THAN 'FOR EVERY INPUT', by the rows' own cells (each row's printed sentence says how): FnDigitsExact: laid · FnDigitsStopsAtNonDigit: laid.
  DERIVED. THE GIVEN ROWS OF THIS SEAT. 3 by the template 'for every input the law returns true; each argument reads behind the call as it read before'; 0 by the template 'total and deterministic' (their statements: Qxb6604384aFmtTotals.lean).
  GIVEN WITH THE SEED: the statements are not yours to turn. If you find one false, say at which input.
  Laid BY PROGRAM, IN A SANDBOX (cutbox-rows.mjs): the forced cells as the released guide's own fill.sh prints them over the translation 63f506fdc126a4f7… (all of the seat's roots in one cut). By AI agents, Wed Nov 11 2026. No macro, syntax, notation, axiom, sorry.
-/
import Derived.Test.Qxb6604384aFmtChecked
import GoSem.PinnedTables
import GoSem.Claim
import GoSem.ClaimJoined
import GoSem.ClaimMapViews
import Derived.JoinedTies
import Derived.KernelRfl
namespace Go.Proofs.Qxb6604384aFmt
/- THE CELL 'sum', in the pinned program and in every row, IS THE sha256 OF THE DUMP (.gsa) THAT Qxb6604384aFmtProg.lean LOADS. Nothing in Lean hashes anything: it is a label: what it is worth is what the hold of that sum in a sandbox is worth. -/
noncomputable def Tryf.pinned : Pinned := { name := "qxb6604384afmt", sum := "63f506fdc126a4f77c63248e4501b6e32e79cc378585ba1a3dfc7acb2bb08b65", checked := Tryf.checked }
namespace Rows
def none {H : Type} : Left H := { results := [], args := [] }

/- WHAT THE LISTED PACKAGE-LEVEL VARIABLES READ AS WHEN THE CALL BEGINS. Each datum BY PROGRAM (the guide's laid-datum.mjs) off the statement by which the dump's own 'gosem.cut.vars' lays the variable. In a bare row this is a premise. The card (Qxb6604384aFmtCards.lean) ties it to the program's text. -/
def laid_unicode_utf8_acceptRanges {H : Type} : DataW H := .agg [.agg [.lit (.int .u8 128), .lit (.int .u8 191)], .agg [.lit (.int .u8 160), .lit (.int .u8 191)], .agg [.lit (.int .u8 128), .lit (.int .u8 159)], .agg [.lit (.int .u8 144), .lit (.int .u8 191)], .agg [.lit (.int .u8 128), .lit (.int .u8 143)], .agg [.lit (.int .u8 0), .lit (.int .u8 0)], .agg [.lit (.int .u8 0), .lit (.int .u8 0)], .agg [.lit (.int .u8 0), .lit (.int .u8 0)], .agg [.lit (.int .u8 0), .lit (.int .u8 0)], .agg [.lit (.int .u8 0), .lit (.int .u8 0)], .agg [.lit (.int .u8 0), .lit (.int .u8 0)], .agg [.lit (.int .u8 0), .lit (.int .u8 0)], .agg [.lit (.int .u8 0), .lit (.int .u8 0)], .agg [.lit (.int .u8 0), .lit (.int .u8 0)], .agg [.lit (.int .u8 0), .lit (.int .u8 0)], .agg [.lit (.int .u8 0), .lit (.int .u8 0)]]
def laid_io_ErrUnexpectedEOF {H : Type} : DataW H := .iface "*errors.errorString" (.ptr (.agg [.lit (.string [117, 110, 101, 120, 112, 101, 99, 116, 101, 100, 32, 69, 79, 70])]))
/-- One of Go's own tables, pinned by name: the form's constant. -/
def laid_unicode_utf8_first : DataW Unit := Go.Pinned.utf8First

/-- 'zzlaws_root_b1.FnListingErrorPlacePrecedence': WHATEVER THE INPUT: true; the input reads as it did. -/
def fnListingErrorPlacePrecedenceSpec : ChangeSpec := { name := "fnListingErrorPlacePrecedence", fn := fun _ => fun
  | [d1, d2, d3, d4] => { results := [.lit (.bool true)], args := [d1, d2, d3, d4] }
  | _ => none }
def fnListingErrorPlacePrecedenceRow : OpenClaim := { program := "qxb6604384afmt", sum := "63f506fdc126a4f77c63248e4501b6e32e79cc378585ba1a3dfc7acb2bb08b65", func := "example.com/slotwise/slotwise/zzlaws_root_b1.FnListingErrorPlacePrecedence", spec := "fnListingErrorPlacePrecedence", stops := ["fmt.Sprintf, its operands' methods called", "fmt.errorf"], inPlace := ["fmt.Sprintf"], unfollowed := true, recurses := true, apart := false }
/-- NO THEOREM (fmt's text is open here; it may be false): for the released tool's asking of the row's closed facts alone. THE STATEMENT IS 'FnListingErrorPlacePrecedenceToldSaid' (Qxb6604384aFmtCards.lean). -/
def FnListingErrorPlacePrecedenceFormAsk : Prop := fnListingErrorPlacePrecedenceRow.holds Tryf.pinned (OpenSpec.ofChange fnListingErrorPlacePrecedenceSpec)

/-- ITS FALSE NEIGHBOUR: 'it returns false'. Refute it at one input. -/
def fnListingErrorPlacePrecedenceWrong : ChangeSpec := { name := "fnListingErrorPlacePrecedence", fn := fun _ => fun
  | [d1, d2, d3, d4] => { results := [.lit (.bool false)], args := [d1, d2, d3, d4] }
  | _ => none }
def FnListingErrorPlacePrecedenceWrongFormAsk : Prop := fnListingErrorPlacePrecedenceRow.holds Tryf.pinned (OpenSpec.ofChange fnListingErrorPlacePrecedenceWrong)

/-- 'zzlaws_root_b1.FnDigitsExact': WHATEVER THE INPUT: true; the input reads as it did. -/
def fnDigitsExactSpec : ChangeSpec := { name := "fnDigitsExact", fn := fun _ => fun
  | [d1, d2, d3] => { results := [.lit (.bool true)], args := [d1, d2, d3] }
  | _ => none }
def fnDigitsExactRow : OpenClaim := { program := "qxb6604384afmt", sum := "63f506fdc126a4f77c63248e4501b6e32e79cc378585ba1a3dfc7acb2bb08b65", func := "example.com/slotwise/slotwise/zzlaws_root_b1.FnDigitsExact", spec := "fnDigitsExact", stops := ["fmt.Sprintf, its operands' methods called", "fmt.errorf"], inPlace := ["fmt.errorf", "internal/reflectlite.TypeOf"], unfollowed := true, recurses := true, named := ["io.ErrUnexpectedEOF", "unicode/utf8.first", "unicode/utf8.acceptRanges"], apart := false, laid := [("unicode/utf8.acceptRanges", laid_unicode_utf8_acceptRanges), ("io.ErrUnexpectedEOF", laid_io_ErrUnexpectedEOF), ("unicode/utf8.first", laid_unicode_utf8_first)] }
/-- NO THEOREM (fmt's text is open here; it may be false): for the released tool's asking of the row's closed facts alone. THE STATEMENT IS 'FnDigitsExactToldSaid' (Qxb6604384aFmtCards.lean). -/
def FnDigitsExactFormAsk : Prop := fnDigitsExactRow.holds Tryf.pinned (OpenSpec.ofChange fnDigitsExactSpec)

/-- ITS FALSE NEIGHBOUR: 'it returns false'. Refute it at one input. -/
def fnDigitsExactWrong : ChangeSpec := { name := "fnDigitsExact", fn := fun _ => fun
  | [d1, d2, d3] => { results := [.lit (.bool false)], args := [d1, d2, d3] }
  | _ => none }
def FnDigitsExactWrongFormAsk : Prop := fnDigitsExactRow.holds Tryf.pinned (OpenSpec.ofChange fnDigitsExactWrong)

/-- 'zzlaws_root_b1.FnDigitsStopsAtNonDigit': WHATEVER THE INPUT: true; the input reads as it did. -/
def fnDigitsStopsAtNonDigitSpec : ChangeSpec := { name := "fnDigitsStopsAtNonDigit", fn := fun _ => fun
  | [d1, d2, d3] => { results := [.lit (.bool true)], args := [d1, d2, d3] }
  | _ => none }
def fnDigitsStopsAtNonDigitRow : OpenClaim := { program := "qxb6604384afmt", sum := "63f506fdc126a4f77c63248e4501b6e32e79cc378585ba1a3dfc7acb2bb08b65", func := "example.com/slotwise/slotwise/zzlaws_root_b1.FnDigitsStopsAtNonDigit", spec := "fnDigitsStopsAtNonDigit", stops := ["fmt.Sprintf, its operands' methods called", "fmt.errorf"], inPlace := ["fmt.errorf", "internal/reflectlite.TypeOf"], unfollowed := true, recurses := true, named := ["io.ErrUnexpectedEOF", "unicode/utf8.first", "unicode/utf8.acceptRanges"], apart := false, laid := [("unicode/utf8.acceptRanges", laid_unicode_utf8_acceptRanges), ("io.ErrUnexpectedEOF", laid_io_ErrUnexpectedEOF), ("unicode/utf8.first", laid_unicode_utf8_first)] }
/-- NO THEOREM (fmt's text is open here; it may be false): for the released tool's asking of the row's closed facts alone. THE STATEMENT IS 'FnDigitsStopsAtNonDigitToldSaid' (Qxb6604384aFmtCards.lean). -/
def FnDigitsStopsAtNonDigitFormAsk : Prop := fnDigitsStopsAtNonDigitRow.holds Tryf.pinned (OpenSpec.ofChange fnDigitsStopsAtNonDigitSpec)

/-- ITS FALSE NEIGHBOUR: 'it returns false'. Refute it at one input. -/
def fnDigitsStopsAtNonDigitWrong : ChangeSpec := { name := "fnDigitsStopsAtNonDigit", fn := fun _ => fun
  | [d1, d2, d3] => { results := [.lit (.bool false)], args := [d1, d2, d3] }
  | _ => none }
def FnDigitsStopsAtNonDigitWrongFormAsk : Prop := fnDigitsStopsAtNonDigitRow.holds Tryf.pinned (OpenSpec.ofChange fnDigitsStopsAtNonDigitWrong)

end Rows
end Go.Proofs.Qxb6604384aFmt
