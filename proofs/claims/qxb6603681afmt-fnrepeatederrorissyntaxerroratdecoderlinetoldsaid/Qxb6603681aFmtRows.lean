/-
  NARROWER THAN 'FOR EVERY INPUT', by the rows' own cells (each row's printed sentence says how): FnRepeatedErrorIsSyntaxErrorAtDecoderLine: laid.
  DERIVED. THE GIVEN ROWS OF THIS SEAT. 1 by the template 'for every input the law returns true; each argument reads behind the call as it read before'; 0 by the template 'total and deterministic' (their statements: Qxb6603681aFmtTotals.lean).
  GIVEN WITH THE SEED: the statements are not yours to turn. If you find one false, say at which input.
  Laid BY PROGRAM, IN A SANDBOX (cutbox-rows.mjs): the forced cells as the released guide's own fill.sh prints them over the translation de78b68c10b5dc0b… (all of the seat's roots in one cut). By AI agents, Wed Nov 11 2026. No macro, syntax, notation, axiom, sorry.
-/
import Derived.Test.Qxb6603681aFmtChecked
import GoSem.Claim
import GoSem.ClaimJoined
import GoSem.ClaimMapViews
import Derived.JoinedTies
import Derived.KernelRfl
namespace Go.Proofs.Qxb6603681aFmt
/- THE CELL 'sum', in the pinned program and in every row, IS THE sha256 OF THE DUMP (.gsa) THAT Qxb6603681aFmtProg.lean LOADS. Nothing in Lean hashes anything: it is a label: what it is worth is what the hold of that sum in a sandbox is worth. -/
noncomputable def Tryf.pinned : Pinned := { name := "qxb6603681afmt", sum := "de78b68c10b5dc0bb702ac35dd56648ddf62ae3f69e6781a683c5603ed9b98a4", checked := Tryf.checked }
namespace Rows
def none {H : Type} : Left H := { results := [], args := [] }

/- WHAT THE LISTED PACKAGE-LEVEL VARIABLES READ AS WHEN THE CALL BEGINS. Each datum BY PROGRAM (the guide's laid-datum.mjs) off the statement by which the dump's own 'gosem.cut.vars' lays the variable. In a bare row this is a premise. The card (Qxb6603681aFmtCards.lean) ties it to the program's text. -/
def laid_errors_errorType {H : Type} : DataW H := .iface "internal/reflectlite.rtype" (.agg [.ptr (.lit (.string [101, 114, 114, 111, 114]))])

/-- 'zzlaws_rdf_b1.FnRepeatedErrorIsSyntaxErrorAtDecoderLine': WHATEVER THE INPUT: true; the input reads as it did. -/
def fnRepeatedErrorIsSyntaxErrorAtDecoderLineSpec : ChangeSpec := { name := "fnRepeatedErrorIsSyntaxErrorAtDecoderLine", fn := fun _ => fun
  | [d1, d2] => { results := [.lit (.bool true)], args := [d1, d2] }
  | _ => none }
def fnRepeatedErrorIsSyntaxErrorAtDecoderLineRow : OpenClaim := { program := "qxb6603681afmt", sum := "de78b68c10b5dc0bb702ac35dd56648ddf62ae3f69e6781a683c5603ed9b98a4", func := "example.com/wayfarer/wayfarer/zzlaws_rdf_b1.FnRepeatedErrorIsSyntaxErrorAtDecoderLine", spec := "fnRepeatedErrorIsSyntaxErrorAtDecoderLine", stops := ["fmt.Sprintf, its operands' methods called"], inPlace := ["fmt.Sprintf", "internal/reflectlite.ValueOf", "(internal/reflectlite.Value).Type", "(internal/reflectlite.Value).IsNil", "internal/reflectlite.TypeOf", "(internal/reflectlite.Value).Elem", "(internal/reflectlite.Value).Set"], unfollowed := true, recurses := true, named := ["errors.errorType"], apart := false, laid := [("errors.errorType", laid_errors_errorType)] }
/-- NO THEOREM (fmt's text is open here; it may be false): for the released tool's asking of the row's closed facts alone. THE STATEMENT IS 'FnRepeatedErrorIsSyntaxErrorAtDecoderLineToldSaid' (Qxb6603681aFmtCards.lean). -/
def FnRepeatedErrorIsSyntaxErrorAtDecoderLineFormAsk : Prop := fnRepeatedErrorIsSyntaxErrorAtDecoderLineRow.holds Tryf.pinned (OpenSpec.ofChange fnRepeatedErrorIsSyntaxErrorAtDecoderLineSpec)

/-- ITS FALSE NEIGHBOUR: 'it returns false'. Refute it at one input. -/
def fnRepeatedErrorIsSyntaxErrorAtDecoderLineWrong : ChangeSpec := { name := "fnRepeatedErrorIsSyntaxErrorAtDecoderLine", fn := fun _ => fun
  | [d1, d2] => { results := [.lit (.bool false)], args := [d1, d2] }
  | _ => none }
def FnRepeatedErrorIsSyntaxErrorAtDecoderLineWrongFormAsk : Prop := fnRepeatedErrorIsSyntaxErrorAtDecoderLineRow.holds Tryf.pinned (OpenSpec.ofChange fnRepeatedErrorIsSyntaxErrorAtDecoderLineWrong)

end Rows
end Go.Proofs.Qxb6603681aFmt
