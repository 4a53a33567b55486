/-
  DERIVED. GIVEN WITH THE SEED: THE CARDS: each row of Qxb6603681aFmtRows.lean that lists a variable, with what it lists TIED to the program's text (the seventh form; the later family's looks); each row that meets fmt, with fmt's text TOLD by the authors' own Lean function (tested against real Go, not proved from fmt's source: count such statements apart). THE CARD IS WHAT COUNTS. Prove the row's statement (the work); the ties are given (Qxb6603681aFmtTie.lean); close each card by the builder's one call (the guide's Derived/Test/ToyasCard.lean, 'card_holds'). Laid BY PROGRAM, IN A SANDBOX (cutbox-door.mjs). By AI agents, Wed Nov 11 2026. No macro, syntax, notation, axiom, sorry.
-/
import Derived.Test.Qxb6603681aFmtRows
import GoSem.ClaimSeven
namespace Go.Proofs.Qxb6603681aFmt
namespace Rows

/-- THE TOLD AND TIED CARD OF 'zzlaws_rdf_b1.FnRepeatedErrorIsSyntaxErrorAtDecoderLine'. -/
def fnRepeatedErrorIsSyntaxErrorAtDecoderLineCard : Claim7 := { stood := { row := fnRepeatedErrorIsSyntaxErrorAtDecoderLineRow, standIns := [], harness := (true, "08839ffa311e9279e68c014cdaf5abcc0868bbda7baebd9927574db610a8a134"), looks := true }, told := true, laidByText := true, laidKinds := [.handle], laidTests := true, laidLooks := .later, goes := false }
def FnRepeatedErrorIsSyntaxErrorAtDecoderLineToldSaid : Prop := Claim7.holds Tryf.pinned (.plain (OpenSpec.ofChange fnRepeatedErrorIsSyntaxErrorAtDecoderLineSpec)) fnRepeatedErrorIsSyntaxErrorAtDecoderLineCard
/-- ITS FALSE NEIGHBOUR. Refute it at one input. -/
def FnRepeatedErrorIsSyntaxErrorAtDecoderLineToldWrongFalsely : Prop := Claim7.holds Tryf.pinned (.plain (OpenSpec.ofChange fnRepeatedErrorIsSyntaxErrorAtDecoderLineWrong)) fnRepeatedErrorIsSyntaxErrorAtDecoderLineCard
end Rows
end Go.Proofs.Qxb6603681aFmt
